import JvmDerived
import JvmDerived.Pilot.@@N@@Statement
import JvmDerived.Pilot.@@N@@Code
set_option linter.unusedVariables false
set_option linter.unusedSimpArgs false

/-! An interface call whose reference lands in another class's method (Object.toString by way of Collection), without the word that this method is public: the link word's own access test serves -/
namespace Jvm.OwnKit
open Sem ClassFile Op Lib Jvm.Stand Jvm.Free Jvm.LawKit Jvm.RoadKit
section IfUp
variable {p : Program} {l : Launch} {e : Env} {R : Room} {s : State} {m : MethodId} {args : Array Value} {below : List Frame} {meth : Method} {c : Code} {T : State} {locs : List Loc} {cells slots : Nat}
end IfUp
end Jvm.OwnKit
namespace Jvm.OwnKit
open Sem ClassFile Op Lib Jvm.Stand Jvm.Free Jvm.LawKit Jvm.RoadKit
/-! ## What is owed from a state on, and where a walk stands: one bundle a walk -/
def Go (tb : Tables) (e : Env) (below : List Frame) (P : Outcome → State → Prop) (A : State) : Prop := ∃ s₂ o, Steps tb e below A s₂ ∧ s₂.status = .running ∧ Ended s₂ below o ∧ P o s₂
theorem Go.go {tb : Tables} {e : Env} {below : List Frame} {P : Outcome → State → Prop} {A B : State} (st : ∀ t, Steps tb e below B t → Steps tb e below A t) (k : Go tb e below P B) : Go tb e below P A := by
  obtain ⟨s2, o, h, r⟩ := k
  exact ⟨s2, o, st _ h, r⟩
theorem Go.cast {tb : Tables} {e : Env} {below : List Frame} {P : Outcome → State → Prop} {T : State} {g g' : JFrame} (q : g = g') (k : Go tb e below P (T.setTop g')) : Go tb e below P (T.setTop g) := q ▸ k
def QQ (h0 : Heap) (n0 : Nat) (ws : List Addr) (Po : Option Value → Heap → Vm → Prop) (v : Option Value) (h : Heap) (vm : Vm) (L : List Loc) : Prop := Fr n0 L ∧ Keep h0 h ws ∧ Po v h vm
def PO (s : State) (R : Room) (h0 : Heap) (n0 : Nat) (ws : List Addr) (Z : State) (EL : List (String × Nat)) (Po : Option Value → Heap → Vm → Prop) (o : Outcome) (t : State) : Prop := ∃ v L, o = .returned v ∧ QQ h0 n0 ws Po v t.heap t.vm L ∧ CHr Z EL s.vm s.heap t.vm t.heap ∧ ReturnedEndW s o t L R.cells R.slots
def KnP (kn : Bool) (vm : Vm) (below : List Frame) : Prop := kn = true → vm.MethodsKnown ∧ vm.FramesKnown below
theorem KnP.alike {kn : Bool} {vm vm' : Vm} {below : List Frame} (h : KnP kn vm below) (ha : vm.Alike vm') : KnP kn vm' below := fun q => ⟨Vm.MethodsKnown.alikeC ha (h q).1, Vm.FramesKnown.alikeC ha (h q).2⟩
def Met (l : Launch) (y : MethodName) (bytes : ByteArray) (maxL : Nat) (ret : Option FieldType) (wl : List Cond) (rm : Room) (Z : State) (as' : Array Value) (h0 : Heap) (n0 : Nat) (ws : List Addr) (EL : List (String × Nat)) (kn : Bool) (sf : List Addr) (Po : Option Value → Heap → Vm → Prop) : Prop :=
  MetFree l y (head1 (Cond.code y bytes maxL ret :: wl) rm) (fun a U => a = as' ∧ Z.Warmed39 U.vm ∧ U.heap = h0 ∧ CHv Z EL U.vm h0 ∧ ∀ x ∈ sf, Safe Z EL U.vm h0 x) (fun _ _ bl s _ => KnP kn s.vm bl) (fun _ U o U' => ∃ v L, o = .returned v ∧ QQ h0 n0 ws Po v U'.heap U'.vm L ∧ CHr Z EL U.vm U.heap U'.vm U'.heap ∧ ReturnedEndW U o U' L rm.cells rm.slots)
def Here (p : Program) (l : Launch) (e : Env) (R : Room) (s : State) (m : MethodId) (args : Array Value) (below : List Frame) (meth : Method) (c : Code) (Z : State) (bytes : ByteArray) (maxL : Nat) (ret : Option FieldType) (own nm : String) (h0 : Heap) (n0 : Nat) (ws : List Addr) (EL : List (String × Nat)) (kn : Bool)
    (T : State) (h : Heap) (vm0 : Vm) (cells slots : Nat) : Prop :=
  ∃ k0 locs, Stand p l e R (s.setVm vm0) m args below meth c T locs cells slots ∧ Fr n0 locs ∧ T.heap = h ∧ Old Z n0 h ∧ Keep h0 h ws ∧ p.tables.exec = Jvm.exec ∧ c.code = bytes ∧ c.maxLocals = maxL ∧ meth.sig.returnType = ret ∧ meth.locks = false ∧ vm0.findClass own = some m.cls ∧ meth.name = nm ∧ Z.Warmed39 vm0 ∧ s.Since vm0 k0 ∧ k0 ≤ h.size ∧ CHr Z EL s.vm h0 vm0 h ∧ (∃ a1, EW Z a1 EL) ∧ KnP kn vm0 below ∧ s.heap = h0
section Own
variable {p : Program} {l : Launch} {e : Env} {R : Room} {s : State} {m : MethodId} {args : Array Value} {below : List Frame} {meth : Method} {c : Code} {T : State} {locs : List Loc} {cells slots : Nat} {Z : State} {a0 : Array Value} {h : Heap}
end Own
section Kit
variable {p : Program} {l : Launch} {e : Env} {R : Room} {s : State} {m : MethodId} {args : Array Value} {below : List Frame} {meth : Method} {c : Code} {Z : State} {bytes : ByteArray} {maxL : Nat} {ret : Option FieldType} {own nm : String} {h0 : Heap} {n0 : Nat} {ws : List Addr} {T : State} {h : Heap} {cells slots : Nat} {P : Outcome → State → Prop} {pc : Nat} (pc' : Nat) {Ls : Array Slot} {st rest : List Value} {a0 : Array Value} {EL : List (String × Nat)} {kn : Bool} {vm0 : Vm} {sf : List Addr}
theorem met_intro {y : MethodName} {wl : List Cond} {as' : Array Value} {Po : Option Value → Heap → Vm → Prop} (hpn : plainFor y = true) (hc0 : y.cls = own) (hn0 : y.name = nm) (O : Old Z n0 h0) (hew : EW Z a0 EL)
    (body : ∀ p e s m below meth c s₁, Here p l e R s m as' below meth c Z bytes maxL ret own nm h0 n0 ws EL kn s₁ h0 s.vm 0 0 → (∀ x ∈ sf, Safe Z EL s.vm h0 x) → Go p.tables e below (PO s R h0 n0 ws Z EL Po) (s₁.setTop (entryFrame m as' maxL))) : Met l y bytes maxL ret wl R Z as' h0 n0 ws EL kn sf Po := by
  subst hc0 hn0
  refine MetFree.of_bodySF hpn hisR ?_
  intro p e s m args below meth c s₁ Bd hml0 hP hK
  obtain ⟨rfl, hZ, hh, hCH, hsf⟩ := hP
  have e0 : s₁.heap = h0 := by rw [← hh, Bd.state]; rfl
  exact body p e s m below meth c s₁ ⟨h0.size, [], Stand.of_body Bd, Fr.nil n0, e0, O, Keep.refl h0 ws, Bd.exec, Bd.bytes, hml0, Bd.returns, BodyLoose.notSynchronized Bd, findClass_of_methodNamed Bd.named, (name_of_methodNamed Bd.named Bd.method).1, hZ, (State.WarmedH.refl s).since _, Nat.le_refl _, CHr.refl hCH, ⟨a0, hew⟩, hK, hh⟩ hsf
theorem Here.old (X : Here p l e R s m args below meth c Z bytes maxL ret own nm h0 n0 ws EL kn T h vm0 cells slots) : Old Z n0 h := by obtain ⟨_, _, _, _, _, q, _⟩ := X; exact q
theorem Here.keep (X : Here p l e R s m args below meth c Z bytes maxL ret own nm h0 n0 ws EL kn T h vm0 cells slots) : Keep h0 h ws := by obtain ⟨_, _, _, _, _, _, q, _⟩ := X; exact q
theorem Here.zv (X : Here p l e R s m args below meth c Z bytes maxL ret own nm h0 n0 ws EL kn T h vm0 cells slots) : Z.Warmed39 vm0 := by obtain ⟨_, _, _, _, _, _, _, _, _, _, _, _, _, _, q, _⟩ := X; exact q
theorem Here.al (X : Here p l e R s m args below meth c Z bytes maxL ret own nm h0 n0 ws EL kn T h vm0 cells slots) : Z.vm.Alike vm0 := X.zv.alike
theorem Here.n0le (X : Here p l e R s m args below meth c Z bytes maxL ret own nm h0 n0 ws EL kn T h vm0 cells slots) : n0 ≤ h.size := by have q := X.old; rw [← q.1]; exact q.2.1
theorem oI {k : Fin 4} {v : Int32} (X : Here p l e R s m args below meth c Z bytes maxL ret own nm h0 n0 ws EL kn T h vm0 cells slots) (hd : decode bytes pc = .ok (.iload_n k, 1)) (hp : pc + 1 = pc') (hl : Ls[k.val]? = some (.val (.int v)))
    (k : Go p.tables e below P (T.setTop (mkF m pc' Ls (.int v :: st)))) : Go p.tables e below P (T.setTop (mkF m pc Ls st)) := by
  obtain ⟨k0, locs, Y, N, eT, O, K, hx, hby, hml, hret, hlk, hown, hnm, hZ, hS, hk, hC, hEW, hKn, hsh⟩ := X
  subst hp
  exact Go.go (fun t q => XS.iloadN Y.here hx rfl (hb hby hd) hl q) k
theorem oi {k : Nat} {v : Int32} (X : Here p l e R s m args below meth c Z bytes maxL ret own nm h0 n0 ws EL kn T h vm0 cells slots) (hd : decode bytes pc = .ok (.iload k, 2)) (hp : pc + 2 = pc') (hl : Ls[k]? = some (.val (.int v)))
    (k : Go p.tables e below P (T.setTop (mkF m pc' Ls (.int v :: st)))) : Go p.tables e below P (T.setTop (mkF m pc Ls st)) := by
  obtain ⟨k0, locs, Y, N, eT, O, K, hx, hby, hml, hret, hlk, hown, hnm, hZ, hS, hk, hC, hEW, hKn, hsh⟩ := X
  subst hp
  exact Go.go (fun t q => XS.iload Y.here hx rfl (hb hby hd) hl q) k
theorem o_aloadN {k : Fin 4} {v : Value} (X : Here p l e R s m args below meth c Z bytes maxL ret own nm h0 n0 ws EL kn T h vm0 cells slots) (hd : decode bytes pc = .ok (.aload_n k, 1)) (hp : pc + 1 = pc') (hl : Ls[k.val]? = some (.val v)) (hv : v.isRef = true)
    (k : Go p.tables e below P (T.setTop (mkF m pc' Ls (v :: st)))) : Go p.tables e below P (T.setTop (mkF m pc Ls st)) := by
  obtain ⟨k0, locs, Y, N, eT, O, K, hx, hby, hml, hret, hlk, hown, hnm, hZ, hS, hk, hC, hEW, hKn, hsh⟩ := X
  subst hp
  exact Go.go (fun t q => XS.aloadN Y.here hx rfl (hb hby hd) hl hv q) k
theorem o_aload {k : Nat} {v : Value} (X : Here p l e R s m args below meth c Z bytes maxL ret own nm h0 n0 ws EL kn T h vm0 cells slots) (hd : decode bytes pc = .ok (.aload k, 2)) (hp : pc + 2 = pc') (hl : Ls[k]? = some (.val v)) (hv : v.isRef = true)
    (k : Go p.tables e below P (T.setTop (mkF m pc' Ls (v :: st)))) : Go p.tables e below P (T.setTop (mkF m pc Ls st)) := by
  obtain ⟨k0, locs, Y, N, eT, O, K, hx, hby, hml, hret, hlk, hown, hnm, hZ, hS, hk, hC, hEW, hKn, hsh⟩ := X
  subst hp
  exact Go.go (fun t q => XS.aload Y.here hx rfl (hb hby hd) hl hv q) k
theorem oT {k : Fin 4} {x : Int32} {l' : Array Slot} (X : Here p l e R s m args below meth c Z bytes maxL ret own nm h0 n0 ws EL kn T h vm0 cells slots) (hd : decode bytes pc = .ok (.istore_n k, 1)) (hp : pc + 1 = pc') (hl : storeLocals Ls k.val (.int x) = some l')
    (k : Go p.tables e below P (T.setTop (mkF m pc' l' st))) : Go p.tables e below P (T.setTop (mkF m pc Ls (.int x :: st))) := by
  obtain ⟨k0, locs, Y, N, eT, O, K, hx, hby, hml, hret, hlk, hown, hnm, hZ, hS, hk, hC, hEW, hKn, hsh⟩ := X
  subst hp
  exact Go.go (fun t q => XS.istoreN Y.here hx rfl (hb hby hd) rfl hl q) k
theorem oS {k : Nat} {x : Int32} {l' : Array Slot} (X : Here p l e R s m args below meth c Z bytes maxL ret own nm h0 n0 ws EL kn T h vm0 cells slots) (hd : decode bytes pc = .ok (.istore k, 2)) (hp : pc + 2 = pc') (hl : storeLocals Ls k (.int x) = some l')
    (k : Go p.tables e below P (T.setTop (mkF m pc' l' st))) : Go p.tables e below P (T.setTop (mkF m pc Ls (.int x :: st))) := by
  obtain ⟨k0, locs, Y, N, eT, O, K, hx, hby, hml, hret, hlk, hown, hnm, hZ, hS, hk, hC, hEW, hKn, hsh⟩ := X
  subst hp
  exact Go.go (fun t q => XS.istore Y.here hx rfl (hb hby hd) rfl hl q) k
theorem oV {k : Fin 4} {v : Value} {l' : Array Slot} (X : Here p l e R s m args below meth c Z bytes maxL ret own nm h0 n0 ws EL kn T h vm0 cells slots) (hd : decode bytes pc = .ok (.astore_n k, 1)) (hp : pc + 1 = pc') (hv : v.isRef = true) (hl : storeLocals Ls k.val v = some l')
    (k : Go p.tables e below P (T.setTop (mkF m pc' l' st))) : Go p.tables e below P (T.setTop (mkF m pc Ls (v :: st))) := by
  obtain ⟨k0, locs, Y, N, eT, O, K, hx, hby, hml, hret, hlk, hown, hnm, hZ, hS, hk, hC, hEW, hKn, hsh⟩ := X
  subst hp
  exact Go.go (fun t q => XS.astoreN Y.here hx rfl (hb hby hd) rfl hv hl q) k
theorem oU {k : Nat} {v : Value} {l' : Array Slot} (X : Here p l e R s m args below meth c Z bytes maxL ret own nm h0 n0 ws EL kn T h vm0 cells slots) (hd : decode bytes pc = .ok (.astore k, 2)) (hp : pc + 2 = pc') (hv : v.isRef = true) (hl : storeLocals Ls k v = some l')
    (k : Go p.tables e below P (T.setTop (mkF m pc' l' st))) : Go p.tables e below P (T.setTop (mkF m pc Ls (v :: st))) := by
  obtain ⟨k0, locs, Y, N, eT, O, K, hx, hby, hml, hret, hlk, hown, hnm, hZ, hS, hk, hC, hEW, hKn, hsh⟩ := X
  subst hp
  exact Go.go (fun t q => XS.astore Y.here hx rfl (hb hby hd) rfl hv hl q) k
theorem oc {i : Int} {v : Int32} (X : Here p l e R s m args below meth c Z bytes maxL ret own nm h0 n0 ws EL kn T h vm0 cells slots) (hd : decode bytes pc = .ok (.iconst i, 1)) (hp : pc + 1 = pc') (hv : Int32.ofInt i = v)
    (k : Go p.tables e below P (T.setTop (mkF m pc' Ls (.int v :: st)))) : Go p.tables e below P (T.setTop (mkF m pc Ls st)) := by
  obtain ⟨k0, locs, Y, N, eT, O, K, hx, hby, hml, hret, hlk, hown, hnm, hZ, hS, hk, hC, hEW, hKn, hsh⟩ := X
  subst hp hv
  exact Go.go (fun t q => XS.iconst Y.here hx rfl (hb hby hd) q) k
theorem ob {i : Int} {v : Int32} (X : Here p l e R s m args below meth c Z bytes maxL ret own nm h0 n0 ws EL kn T h vm0 cells slots) (hd : decode bytes pc = .ok (.bipush i, 2)) (hp : pc + 2 = pc') (hv : (Int8.ofInt i).toInt32 = v)
    (k : Go p.tables e below P (T.setTop (mkF m pc' Ls (.int v :: st)))) : Go p.tables e below P (T.setTop (mkF m pc Ls st)) := by
  obtain ⟨k0, locs, Y, N, eT, O, K, hx, hby, hml, hret, hlk, hown, hnm, hZ, hS, hk, hC, hEW, hKn, hsh⟩ := X
  subst hp hv
  exact Go.go (fun t q => XS.bipush Y.here hx rfl (hb hby hd) q) k
theorem o_sipush {i : Int} {v : Int32} (X : Here p l e R s m args below meth c Z bytes maxL ret own nm h0 n0 ws EL kn T h vm0 cells slots) (hd : decode bytes pc = .ok (.sipush i, 3)) (hp : pc + 3 = pc') (hv : (Int16.ofInt i).toInt32 = v)
    (k : Go p.tables e below P (T.setTop (mkF m pc' Ls (.int v :: st)))) : Go p.tables e below P (T.setTop (mkF m pc Ls st)) := by
  obtain ⟨k0, locs, Y, N, eT, O, K, hx, hby, hml, hret, hlk, hown, hnm, hZ, hS, hk, hC, hEW, hKn, hsh⟩ := X
  subst hp hv
  exact Go.go (fun t q => XS.sipush Y.here hx rfl (hb hby hd) q) k
theorem o_aconstNull  (X : Here p l e R s m args below meth c Z bytes maxL ret own nm h0 n0 ws EL kn T h vm0 cells slots) (hd : decode bytes pc = .ok (.aconst_null, 1)) (hp : pc + 1 = pc') 
    (k : Go p.tables e below P (T.setTop (mkF m pc' Ls (.null :: st)))) : Go p.tables e below P (T.setTop (mkF m pc Ls st)) := by
  obtain ⟨k0, locs, Y, N, eT, O, K, hx, hby, hml, hret, hlk, hown, hnm, hZ, hS, hk, hC, hEW, hKn, hsh⟩ := X
  subst hp
  exact Go.go (fun t q => XS.aconstNull Y.here hx rfl (hb hby hd)  q) k
theorem o_iadd {x y : Int32} {v : Int32} (X : Here p l e R s m args below meth c Z bytes maxL ret own nm h0 n0 ws EL kn T h vm0 cells slots) (hd : decode bytes pc = .ok (.iadd, 1)) (hp : pc + 1 = pc')  (hv : x + y = v)
    (k : Go p.tables e below P (T.setTop (mkF m pc' Ls (.int v :: st)))) : Go p.tables e below P (T.setTop (mkF m pc Ls (.int y :: .int x :: st))) := by
  obtain ⟨k0, locs, Y, N, eT, O, K, hx, hby, hml, hret, hlk, hown, hnm, hZ, hS, hk, hC, hEW, hKn, hsh⟩ := X
  subst hp hv
  exact Go.go (fun t q => XS.iadd Y.here hx rfl (hb hby hd) rfl q) k
theorem o_isub {x y : Int32} {v : Int32} (X : Here p l e R s m args below meth c Z bytes maxL ret own nm h0 n0 ws EL kn T h vm0 cells slots) (hd : decode bytes pc = .ok (.isub, 1)) (hp : pc + 1 = pc')  (hv : x - y = v)
    (k : Go p.tables e below P (T.setTop (mkF m pc' Ls (.int v :: st)))) : Go p.tables e below P (T.setTop (mkF m pc Ls (.int y :: .int x :: st))) := by
  obtain ⟨k0, locs, Y, N, eT, O, K, hx, hby, hml, hret, hlk, hown, hnm, hZ, hS, hk, hC, hEW, hKn, hsh⟩ := X
  subst hp hv
  exact Go.go (fun t q => XS.isub Y.here hx rfl (hb hby hd) rfl q) k
theorem o_iand {x y : Int32} {v : Int32} (X : Here p l e R s m args below meth c Z bytes maxL ret own nm h0 n0 ws EL kn T h vm0 cells slots) (hd : decode bytes pc = .ok (.iand, 1)) (hp : pc + 1 = pc')  (hv : x &&& y = v)
    (k : Go p.tables e below P (T.setTop (mkF m pc' Ls (.int v :: st)))) : Go p.tables e below P (T.setTop (mkF m pc Ls (.int y :: .int x :: st))) := by
  obtain ⟨k0, locs, Y, N, eT, O, K, hx, hby, hml, hret, hlk, hown, hnm, hZ, hS, hk, hC, hEW, hKn, hsh⟩ := X
  subst hp hv
  exact Go.go (fun t q => XS.iand Y.here hx rfl (hb hby hd) rfl q) k
theorem o_ishr {x y : Int32} {v : Int32} (X : Here p l e R s m args below meth c Z bytes maxL ret own nm h0 n0 ws EL kn T h vm0 cells slots) (hd : decode bytes pc = .ok (.ishr, 1)) (hp : pc + 1 = pc')  (hv : x >>> (y &&& 31) = v)
    (k : Go p.tables e below P (T.setTop (mkF m pc' Ls (.int v :: st)))) : Go p.tables e below P (T.setTop (mkF m pc Ls (.int y :: .int x :: st))) := by
  obtain ⟨k0, locs, Y, N, eT, O, K, hx, hby, hml, hret, hlk, hown, hnm, hZ, hS, hk, hC, hEW, hKn, hsh⟩ := X
  subst hp hv
  exact Go.go (fun t q => XS.ishr Y.here hx rfl (hb hby hd) rfl q) k
theorem o_iushr {x y : Int32} {v : Int32} (X : Here p l e R s m args below meth c Z bytes maxL ret own nm h0 n0 ws EL kn T h vm0 cells slots) (hd : decode bytes pc = .ok (.iushr, 1)) (hp : pc + 1 = pc')  (hv : (x.toUInt32 >>> (y &&& 31).toUInt32).toInt32 = v)
    (k : Go p.tables e below P (T.setTop (mkF m pc' Ls (.int v :: st)))) : Go p.tables e below P (T.setTop (mkF m pc Ls (.int y :: .int x :: st))) := by
  obtain ⟨k0, locs, Y, N, eT, O, K, hx, hby, hml, hret, hlk, hown, hnm, hZ, hS, hk, hC, hEW, hKn, hsh⟩ := X
  subst hp hv
  exact Go.go (fun t q => XS.iushr Y.here hx rfl (hb hby hd) rfl q) k
theorem o_irem {x y : Int32} {v : Int32} (X : Here p l e R s m args below meth c Z bytes maxL ret own nm h0 n0 ws EL kn T h vm0 cells slots) (hd : decode bytes pc = .ok (.irem, 1)) (hp : pc + 1 = pc') (hy : y ≠ 0) (hv : x % y = v)
    (k : Go p.tables e below P (T.setTop (mkF m pc' Ls (.int v :: st)))) : Go p.tables e below P (T.setTop (mkF m pc Ls (.int y :: .int x :: st))) := by
  obtain ⟨k0, locs, Y, N, eT, O, K, hx, hby, hml, hret, hlk, hown, hnm, hZ, hS, hk, hC, hEW, hKn, hsh⟩ := X
  subst hp hv
  exact Go.go (fun t q => iremM Y hx rfl (hb hby hd) rfl hy q) k
theorem o_i2b {x : Int32} {v : Int32} (X : Here p l e R s m args below meth c Z bytes maxL ret own nm h0 n0 ws EL kn T h vm0 cells slots) (hd : decode bytes pc = .ok (.i2b, 1)) (hp : pc + 1 = pc')  (hv : x.toInt8.toInt32 = v)
    (k : Go p.tables e below P (T.setTop (mkF m pc' Ls (.int v :: st)))) : Go p.tables e below P (T.setTop (mkF m pc Ls (.int x :: st))) := by
  obtain ⟨k0, locs, Y, N, eT, O, K, hx, hby, hml, hret, hlk, hown, hnm, hZ, hS, hk, hC, hEW, hKn, hsh⟩ := X
  subst hp hv
  exact Go.go (fun t q => XS.i2b Y.here hx rfl (hb hby hd) rfl q) k
theorem o_i2c {x : Int32} {v : Int32} (X : Here p l e R s m args below meth c Z bytes maxL ret own nm h0 n0 ws EL kn T h vm0 cells slots) (hd : decode bytes pc = .ok (.i2c, 1)) (hp : pc + 1 = pc')  (hv : x.toUInt32.toUInt16.toUInt32.toInt32 = v)
    (k : Go p.tables e below P (T.setTop (mkF m pc' Ls (.int v :: st)))) : Go p.tables e below P (T.setTop (mkF m pc Ls (.int x :: st))) := by
  obtain ⟨k0, locs, Y, N, eT, O, K, hx, hby, hml, hret, hlk, hown, hnm, hZ, hS, hk, hC, hEW, hKn, hsh⟩ := X
  subst hp hv
  exact Go.go (fun t q => XS.i2c Y.here hx rfl (hb hby hd) rfl q) k
theorem oJ (y : Int32) (l' : Array Slot) {k : Nat} {i : Int} {x : Int32} (X : Here p l e R s m args below meth c Z bytes maxL ret own nm h0 n0 ws EL kn T h vm0 cells slots) (hd : decode bytes pc = .ok (.iinc k i, 3)) (hp : pc + 3 = pc') (hl : Ls[k]? = some (.val (.int x))) (hy : x + Int32.ofInt i = y) (hl' : storeLocals Ls k (.int y) = some l')
    (k : Go p.tables e below P (T.setTop (mkF m pc' l' st))) : Go p.tables e below P (T.setTop (mkF m pc Ls st)) := by
  obtain ⟨k0, locs, Y, N, eT, O, K, hx, hby, hml, hret, hlk, hown, hnm, hZ, hS, hk, hC, hEW, hKn, hsh⟩ := X
  subst hp
  exact Go.go (fun t q => XS.iinc Y.here hx rfl (hb hby hd) hl (hy ▸ hl') q) k
theorem oA {k : Fin 4} {a : Addr} (X : Here p l e R s m args below meth c Z bytes maxL ret own nm h0 n0 ws EL kn T h vm0 cells slots) (hd : decode bytes pc = .ok (.aload_n k, 1)) (hp : pc + 1 = pc') (hl : Ls[k.val]? = some (.val (.ref a)))
    (k' : Go p.tables e below P (T.setTop (mkF m pc' Ls (.ref a :: st)))) : Go p.tables e below P (T.setTop (mkF m pc Ls st)) := o_aloadN pc' X hd hp hl rfl k'
theorem oa {k : Nat} {a : Addr} (X : Here p l e R s m args below meth c Z bytes maxL ret own nm h0 n0 ws EL kn T h vm0 cells slots) (hd : decode bytes pc = .ok (.aload k, 2)) (hp : pc + 2 = pc') (hl : Ls[k]? = some (.val (.ref a)))
    (k' : Go p.tables e below P (T.setTop (mkF m pc' Ls (.ref a :: st)))) : Go p.tables e below P (T.setTop (mkF m pc Ls st)) := o_aload pc' X hd hp hl rfl k'
theorem oD {x : Value} (X : Here p l e R s m args below meth c Z bytes maxL ret own nm h0 n0 ws EL kn T h vm0 cells slots) (hd : decode bytes pc = .ok (.dup, 1)) (hp : pc + 1 = pc') (hc : x.category = 1)
    (k : Go p.tables e below P (T.setTop (mkF m pc' Ls (x :: x :: st)))) : Go p.tables e below P (T.setTop (mkF m pc Ls (x :: st))) := by
  obtain ⟨k0, locs, Y, N, eT, O, K, hx, hby, hml, hret, hlk, hown, hnm, hZ, hS, hk, hC, hEW, hKn, hsh⟩ := X
  subst hp
  exact Go.go (fun t q => XS.dup Y.here hx rfl (hb hby hd) rfl hc q) k
theorem o_pop {x : Value} (X : Here p l e R s m args below meth c Z bytes maxL ret own nm h0 n0 ws EL kn T h vm0 cells slots) (hd : decode bytes pc = .ok (.pop, 1)) (hp : pc + 1 = pc') (hc : x.category = 1)
    (k : Go p.tables e below P (T.setTop (mkF m pc' Ls st))) : Go p.tables e below P (T.setTop (mkF m pc Ls (x :: st))) := by
  obtain ⟨k0, locs, Y, N, eT, O, K, hx, hby, hml, hret, hlk, hown, hnm, hZ, hS, hk, hC, hEW, hKn, hsh⟩ := X
  subst hp
  exact Go.go (fun t q => XS.pop Y.here hx rfl (hb hby hd) rfl hc q) k
theorem o_goto  {o : Int} (X : Here p l e R s m args below meth c Z bytes maxL ret own nm h0 n0 ws EL kn T h vm0 cells slots) (hd : decode bytes pc = .ok (.goto o, 3)) (ho : 0 ≤ (pc : Int) + o) (hp : ((pc : Int) + o).toNat = pc') 
    (k : Go p.tables e below P (T.setTop (mkF m pc' Ls st))) : Go p.tables e below P (T.setTop (mkF m pc Ls st)) := by
  obtain ⟨k0, locs, Y, N, eT, O, K, hx, hby, hml, hret, hlk, hown, hnm, hZ, hS, hk, hC, hEW, hKn, hsh⟩ := X
  exact Go.go (fun t q => XS.goto Y.here hx rfl (pc0 := pc) (pc' := pc') rfl (hb hby hd)  ho hp q) k
theorem og  {o : Int} (X : Here p l e R s m args below meth c Z bytes maxL ret own nm h0 n0 ws EL kn T h vm0 cells slots) (hd : decode bytes pc = .ok (.goto o, 3)) (hj : 0 ≤ (pc : Int) + o ∧ ((pc : Int) + o).toNat = pc') 
    (k : Go p.tables e below P (T.setTop (mkF m pc' Ls st))) : Go p.tables e below P (T.setTop (mkF m pc Ls st)) := o_goto pc' X hd hj.1 hj.2  k
theorem o_ifYes {cd : ClassFile.Cond} {x : Int32} {o : Int} (X : Here p l e R s m args below meth c Z bytes maxL ret own nm h0 n0 ws EL kn T h vm0 cells slots) (hd : decode bytes pc = .ok (.ifCond cd o, 3)) (ho : 0 ≤ (pc : Int) + o) (hp : ((pc : Int) + o).toNat = pc') (hc : ifCond.holds cd x = true)
    (k : Go p.tables e below P (T.setTop (mkF m pc' Ls st))) : Go p.tables e below P (T.setTop (mkF m pc Ls (.int x :: st))) := by
  obtain ⟨k0, locs, Y, N, eT, O, K, hx, hby, hml, hret, hlk, hown, hnm, hZ, hS, hk, hC, hEW, hKn, hsh⟩ := X
  exact Go.go (fun t q => XS.ifYes Y.here hx rfl (pc0 := pc) (pc' := pc') rfl (hb hby hd) rfl hc ho hp q) k
theorem oy {cd : ClassFile.Cond} {x : Int32} {o : Int} (X : Here p l e R s m args below meth c Z bytes maxL ret own nm h0 n0 ws EL kn T h vm0 cells slots) (hd : decode bytes pc = .ok (.ifCond cd o, 3)) (hj : 0 ≤ (pc : Int) + o ∧ ((pc : Int) + o).toNat = pc') (hc : ifCond.holds cd x = true)
    (k : Go p.tables e below P (T.setTop (mkF m pc' Ls st))) : Go p.tables e below P (T.setTop (mkF m pc Ls (.int x :: st))) := o_ifYes pc' X hd hj.1 hj.2 hc k
theorem on {cd : ClassFile.Cond} {x : Int32} {o : Int} (X : Here p l e R s m args below meth c Z bytes maxL ret own nm h0 n0 ws EL kn T h vm0 cells slots) (hd : decode bytes pc = .ok (.ifCond cd o, 3)) (hp : pc + 3 = pc') (hc : ifCond.holds cd x = false)
    (k : Go p.tables e below P (T.setTop (mkF m pc' Ls st))) : Go p.tables e below P (T.setTop (mkF m pc Ls (.int x :: st))) := by
  obtain ⟨k0, locs, Y, N, eT, O, K, hx, hby, hml, hret, hlk, hown, hnm, hZ, hS, hk, hC, hEW, hKn, hsh⟩ := X
  subst hp
  exact Go.go (fun t q => XS.ifNo Y.here hx rfl (hb hby hd) rfl hc q) k
theorem o_icmpYes {cd : ClassFile.Cond} {x y : Int32} {o : Int} (X : Here p l e R s m args below meth c Z bytes maxL ret own nm h0 n0 ws EL kn T h vm0 cells slots) (hd : decode bytes pc = .ok (.if_icmp cd o, 3)) (ho : 0 ≤ (pc : Int) + o) (hp : ((pc : Int) + o).toNat = pc') (hc : if_icmp.holds cd x y = true)
    (k : Go p.tables e below P (T.setTop (mkF m pc' Ls st))) : Go p.tables e below P (T.setTop (mkF m pc Ls (.int y :: .int x :: st))) := by
  obtain ⟨k0, locs, Y, N, eT, O, K, hx, hby, hml, hret, hlk, hown, hnm, hZ, hS, hk, hC, hEW, hKn, hsh⟩ := X
  exact Go.go (fun t q => XS.icmpYes Y.here hx rfl (pc0 := pc) (pc' := pc') rfl (hb hby hd) rfl hc ho hp q) k
theorem oY {cd : ClassFile.Cond} {x y : Int32} {o : Int} (X : Here p l e R s m args below meth c Z bytes maxL ret own nm h0 n0 ws EL kn T h vm0 cells slots) (hd : decode bytes pc = .ok (.if_icmp cd o, 3)) (hj : 0 ≤ (pc : Int) + o ∧ ((pc : Int) + o).toNat = pc') (hc : if_icmp.holds cd x y = true)
    (k : Go p.tables e below P (T.setTop (mkF m pc' Ls st))) : Go p.tables e below P (T.setTop (mkF m pc Ls (.int y :: .int x :: st))) := o_icmpYes pc' X hd hj.1 hj.2 hc k
theorem oN {cd : ClassFile.Cond} {x y : Int32} {o : Int} (X : Here p l e R s m args below meth c Z bytes maxL ret own nm h0 n0 ws EL kn T h vm0 cells slots) (hd : decode bytes pc = .ok (.if_icmp cd o, 3)) (hp : pc + 3 = pc') (hc : if_icmp.holds cd x y = false)
    (k : Go p.tables e below P (T.setTop (mkF m pc' Ls st))) : Go p.tables e below P (T.setTop (mkF m pc Ls (.int y :: .int x :: st))) := by
  obtain ⟨k0, locs, Y, N, eT, O, K, hx, hby, hml, hret, hlk, hown, hnm, hZ, hS, hk, hC, hEW, hKn, hsh⟩ := X
  subst hp
  exact Go.go (fun t q => XS.icmpNo Y.here hx rfl (hb hby hd) rfl hc q) k
theorem o_ifnonnullYes {b : Addr} {o : Int} (X : Here p l e R s m args below meth c Z bytes maxL ret own nm h0 n0 ws EL kn T h vm0 cells slots) (hd : decode bytes pc = .ok (.ifnonnull o, 3)) (ho : 0 ≤ (pc : Int) + o) (hp : ((pc : Int) + o).toNat = pc') 
    (k : Go p.tables e below P (T.setTop (mkF m pc' Ls st))) : Go p.tables e below P (T.setTop (mkF m pc Ls (.ref b :: st))) := by
  obtain ⟨k0, locs, Y, N, eT, O, K, hx, hby, hml, hret, hlk, hown, hnm, hZ, hS, hk, hC, hEW, hKn, hsh⟩ := X
  exact Go.go (fun t q => XS.ifnonnullYes Y.here hx rfl (pc0 := pc) (pc' := pc') rfl (hb hby hd) rfl  ho hp q) k
theorem ifnonnullYesJ {b : Addr} {o : Int} (X : Here p l e R s m args below meth c Z bytes maxL ret own nm h0 n0 ws EL kn T h vm0 cells slots) (hd : decode bytes pc = .ok (.ifnonnull o, 3)) (hj : 0 ≤ (pc : Int) + o ∧ ((pc : Int) + o).toNat = pc') 
    (k : Go p.tables e below P (T.setTop (mkF m pc' Ls st))) : Go p.tables e below P (T.setTop (mkF m pc Ls (.ref b :: st))) := o_ifnonnullYes pc' X hd hj.1 hj.2  k
theorem o_ifnonnullNo  {o : Int} (X : Here p l e R s m args below meth c Z bytes maxL ret own nm h0 n0 ws EL kn T h vm0 cells slots) (hd : decode bytes pc = .ok (.ifnonnull o, 3)) (hp : pc + 3 = pc') 
    (k : Go p.tables e below P (T.setTop (mkF m pc' Ls st))) : Go p.tables e below P (T.setTop (mkF m pc Ls (.null :: st))) := by
  obtain ⟨k0, locs, Y, N, eT, O, K, hx, hby, hml, hret, hlk, hown, hnm, hZ, hS, hk, hC, hEW, hKn, hsh⟩ := X
  subst hp
  exact Go.go (fun t q => XS.ifnonnullNo Y.here hx rfl (hb hby hd) rfl  q) k
theorem oF {R0 O n d : String} {index : Nat} {a : Addr} {v : Value} (X : Here p l e R s m args below meth c Z bytes maxL ret own nm h0 n0 ws EL kn T h vm0 cells slots) (w : (Cond.fieldLink own index R0 n d).before a0 Z = true) (via : Via Z R0 O n d) (F : Fld Z h a O n d v) (hd : decode bytes pc = .ok (.getfield index, 3)) (hp : pc + 3 = pc')
    (k : ∀ T', Here p l e R s m args below meth c Z bytes maxL ret own nm h0 n0 ws EL kn T' h vm0 cells slots → Go p.tables e below P (T'.setTop (mkF m pc' Ls (v :: st)))) : Go p.tables e below P (T.setTop (mkF m pc Ls (.ref a :: st))) := by
  obtain ⟨k0, locs, Y, N, eT, O, K, hx, hby, hml, hret, hlk, hown, hnm, hZ, hS, hk, hC, hEW, hKn, hsh⟩ := X
  subst hp
  obtain ⟨T', Y', e', st'⟩ := RoadKit.getF Y hx hZ hown (host := "") (Or.inl w) via eT F (g := mkF m pc Ls (.ref a :: st)) rfl rfl (hb hby hd)
  exact Go.go st' (k T' ⟨k0, locs, Y', N, e', O, K, hx, hby, hml, hret, hlk, hown, hnm, hZ, hS, hk, hC, hEW, hKn, hsh⟩)
theorem oG {R0 O n d : String} {index : Nat} {v : Value} (X : Here p l e R s m args below meth c Z bytes maxL ret own nm h0 n0 ws EL kn T h vm0 cells slots) (w : (Cond.fieldLink own index R0 n d).before a0 Z = true) (via : Via Z R0 O n d) (F : Sta Z h O n d v) (hd : decode bytes pc = .ok (.getstatic index, 3)) (hp : pc + 3 = pc')
    (k : ∀ T', Here p l e R s m args below meth c Z bytes maxL ret own nm h0 n0 ws EL kn T' h vm0 cells slots → Go p.tables e below P (T'.setTop (mkF m pc' Ls (v :: st)))) : Go p.tables e below P (T.setTop (mkF m pc Ls st)) := by
  obtain ⟨k0, locs, Y, N, eT, O, K, hx, hby, hml, hret, hlk, hown, hnm, hZ, hS, hk, hC, hEW, hKn, hsh⟩ := X
  subst hp
  obtain ⟨T', Y', e', st'⟩ := getS2 Y hx hZ hown (host := "") (Or.inl w) via eT F (g := mkF m pc Ls st) rfl (hb hby hd)
  exact Go.go st' (k T' ⟨k0, locs, Y', N, e', O, K, hx, hby, hml, hret, hlk, hown, hnm, hZ, hS, hk, hC, hEW, hKn, hsh⟩)
theorem o_initO {idx W : Nat} {a : Addr} (X : Here p l e R s m args below meth c Z bytes maxL ret own nm h0 n0 ws EL kn T h vm0 cells slots) (w1 : (Cond.methodLink own idx Lib.objectInit).before a0 Z = true) (w2 : (Cond.instanceMethod Lib.objectInit).before a0 Z = true) (w3 : (Cond.code Lib.objectInit ⟨#[0xb1]⟩ 1 none).before a0 Z = true) (hsz : Ls.size = maxL) (hf : 1 ≤ R.frames) (hW : (st.map fun v => v.category).sum ≤ W) (hl : W + 12 ≤ R.locals) (hd : decode bytes pc = .ok (.invokespecial idx, 3)) (hp : pc + 3 = pc')
    (k : ∀ T', Here p l e R s m args below meth c Z bytes maxL ret own nm h0 n0 ws EL kn T' h vm0 cells slots → Go p.tables e below P (T'.setTop (mkF m pc' Ls st))) : Go p.tables e below P (T.setTop (mkF m pc Ls (.ref a :: st))) := by
  obtain ⟨k0, locs, Y, N, eT, O, K, hx, hby, hml, hret, hlk, hown, hnm, hZ, hS, hk, hC, hEW, hKn, hsh⟩ := X
  subst hp
  obtain ⟨T', Y', e', st'⟩ := RoadKit.initO Y hx hZ hown w1 w2 w3 eT (g := mkF m pc Ls (.ref a :: st)) rfl (by rw [hml]; exact hsz) rfl (hb hby hd) hf (W := W) (by show 2 * 0 + _ ≤ _; omega) hl
  exact Go.go st' (k T' ⟨k0, locs, Y', N, e', O, K, hx, hby, hml, hret, hlk, hown, hnm, hZ, hS, hk, hC, hEW, hKn, hsh⟩)
theorem oL {a : Addr} {ka : ClassId} {ty : FieldType} {n : Int32} {vs : List Value} {d : Value} (X : Here p l e R s m args below meth c Z bytes maxL ret own nm h0 n0 ws EL kn T h vm0 cells slots) (F : Arv Z h a ka ty n vs d) (hd : decode bytes pc = .ok (.arraylength, 1)) (hp : pc + 1 = pc')
    (k : Go p.tables e below P (T.setTop (mkF m pc' Ls (.int n :: st)))) : Go p.tables e below P (T.setTop (mkF m pc Ls (.ref a :: st))) := by
  obtain ⟨k0, locs, Y, N, eT, O, K, hx, hby, hml, hret, hlk, hown, hnm, hZ, hS, hk, hC, hEW, hKn, hsh⟩ := X
  subst hp
  obtain ⟨cl, A, -, S, q, -⟩ := F
  refine Go.go (Y.arraylength hx (by rw [eT]; exact A.1) (State.isArrayOf_alike hZ.alike A.2.1) (g := mkF m pc Ls (.ref a :: st)) rfl rfl (hb hby hd)) ?_
  rw [len_of S q]
  exact k
theorem oC {a : Addr} {ka : ClassId} {n j : Int32} {vs : List Value} {d v : Value} (X : Here p l e R s m args below meth c Z bytes maxL ret own nm h0 n0 ws EL kn T h vm0 cells slots) (F : Arv Z h a ka .char n vs d) (hj : ¬ j < 0 ∧ j < n) (hv : vs.getD j.toNatClampNeg d = v) (hd : decode bytes pc = .ok (.caload, 1)) (hp : pc + 1 = pc')
    (k : Go p.tables e below P (T.setTop (mkF m pc' Ls (v :: st)))) : Go p.tables e below P (T.setTop (mkF m pc Ls (.int j :: .ref a :: st))) := by
  obtain ⟨k0, locs, Y, N, eT, O, K, hx, hby, hml, hret, hlk, hown, hnm, hZ, hS, hk, hC, hEW, hKn, hsh⟩ := X
  subst hp
  obtain ⟨cl, A, -, S, q, H, -⟩ := F
  have hin := inb_of S hj
  exact Go.go (Y.caload hx (by rw [eT]; exact A.1) (State.isArrayOf_alike hZ.alike A.2.1) A.2.2 hin (H.at hin hv) (g := mkF m pc Ls (.int j :: .ref a :: st)) rfl rfl (hb hby hd)) k
theorem oB {a : Addr} {ka : ClassId} {n j : Int32} {vs : List Value} {d v : Value} (X : Here p l e R s m args below meth c Z bytes maxL ret own nm h0 n0 ws EL kn T h vm0 cells slots) (F : Arv Z h a ka .byte n vs d) (hj : ¬ j < 0 ∧ j < n) (hv : vs.getD j.toNatClampNeg d = v) (hd : decode bytes pc = .ok (.baload, 1)) (hp : pc + 1 = pc')
    (k : Go p.tables e below P (T.setTop (mkF m pc' Ls (v :: st)))) : Go p.tables e below P (T.setTop (mkF m pc Ls (.int j :: .ref a :: st))) := by
  obtain ⟨k0, locs, Y, N, eT, O, K, hx, hby, hml, hret, hlk, hown, hnm, hZ, hS, hk, hC, hEW, hKn, hsh⟩ := X
  subst hp
  obtain ⟨cl, A, -, S, q, H, -⟩ := F
  have hin := inb_of S hj
  exact Go.go (Y.baloadBytes hx (by rw [eT]; exact A.1) (State.isArrayOf_alike hZ.alike A.2.1) A.2.2 hin (H.at hin hv) (g := mkF m pc Ls (.int j :: .ref a :: st)) rfl rfl (hb hby hd)) k
theorem o_new {C : String} {index kk : Nat} (X : Here p l e R s m args below meth c Z bytes maxL ret own nm h0 n0 ws EL kn T h vm0 cells slots) (w : (Cond.classLink own index C).before a0 Z = true) (wi : (Cond.instantiable C kk).before a0 Z = true) (wz : (Cond.initialized C).before a0 Z = true) (hd : decode bytes pc = .ok (.new index, 3)) (hp : pc + 3 = pc') (hc : cells + 1 ≤ R.cells) (hl : slots + kk ≤ R.slots)
    (k : ∀ T' h' b, Here p l e R s m args below meth c Z bytes maxL ret own nm h0 n0 ws EL kn T' h' vm0 (cells + 1) (slots + kk) → b = h.size → b < h'.size → Ext h h' → Exa Z h' b C → (∀ {O nm d : String} {ty : FieldType}, Laid Z a0 C O nm d → parseFieldDescriptor d = some ty → Fld Z h' b O nm d (defaultValue ty)) → Unt h' b → CHr Z EL vm0 h vm0 h' → Safe Z EL vm0 h' b → Go p.tables e below P (T'.setTop (mkF m pc' Ls (.ref b :: st)))) : Go p.tables e below P (T.setTop (mkF m pc Ls st)) := by
  obtain ⟨k0, locs, Y, N, eT, O, K, hx, hby, hml, hret, hlk, hown, hnm, hZ, hS, hk, hC, hEW, hKn, hsh⟩ := X
  subst hp
  obtain ⟨T', h', Y', e', E', A', D', U', st'⟩ := newO Y hx hZ hown w wi wz eT (g := mkF m pc Ls st) rfl (hb hby hd) hc hl
  exact Go.go st' (k T' h' _ ⟨k0, locs, Y', N, e', O.ext E', K.ext E', hx, hby, hml, hret, hlk, hown, hnm, hZ, hS, Nat.le_trans hk E'.1, hC.trans (CHr.ext E' hC.1), hEW, hKn, hsh⟩ rfl A'.lt E' A' D' U' (CHr.ext E' hC.1) (Safe.ext E' hC.1 (Safe.new (Nat.le_refl _))))
theorem o_newP {aty : ArrayType} {n : Int32} {cap : Nat} {ad : String} (X : Here p l e R s m args below meth c Z bytes maxL ret own nm h0 n0 ws EL kn T h vm0 cells slots) (w : (Cond.arrayClass (newarray.typeOf aty)).before a0 Z = true) (hd : decode bytes pc = .ok (.newarray aty, 2)) (hp : pc + 2 = pc') (hn : ¬ n < 0) (hcap : n.toNatClampNeg ≤ cap) (hb' : cap * 8 ≤ 536870912) (hc : cells + 1 ≤ R.cells) (hl : slots + cap ≤ R.slots) (had : "[" ++ (newarray.typeOf aty).toString = ad)
    (k : ∀ T' h' b ka, Here p l e R s m args below meth c Z bytes maxL ret own nm h0 n0 ws EL kn T' h' vm0 (cells + 1) (slots + cap) → b = h.size → b < h'.size → Ext h h' → Arv Z h' b ka (newarray.typeOf aty) n [] (defaultValue (newarray.typeOf aty)) → Exa Z h' b ad → CHr Z EL vm0 h vm0 h' → Safe Z EL vm0 h' b → Go p.tables e below P (T'.setTop (mkF m pc' Ls (.ref b :: st)))) : Go p.tables e below P (T.setTop (mkF m pc Ls (.int n :: st))) := by
  obtain ⟨k0, locs, Y, N, eT, O, K, hx, hby, hml, hret, hlk, hown, hnm, hZ, hS, hk, hC, hEW, hKn, hsh⟩ := X
  subst hp
  obtain ⟨T', h', ka, Y', e', E', A', B', st'⟩ := newPE Y hx hZ w eT (g := mkF m pc Ls (.int n :: st)) rfl (hb hby hd) rfl hn hcap hb' hc hl had
  exact Go.go st' (k T' h' _ ka ⟨k0, locs, Y', N, e', O.ext E', K.ext E', hx, hby, hml, hret, hlk, hown, hnm, hZ, hS, Nat.le_trans hk E'.1, hC.trans (CHr.ext E' hC.1), hEW, hKn, hsh⟩ rfl A'.lt E' (Arv.new A' hn) B' (CHr.ext E' hC.1) (Safe.ext E' hC.1 (Safe.new (Nat.le_refl _))))
theorem oP {R0 O n d C : String} {index kk : Nat} {ty : FieldType} {a : Addr} {v v' old : Value} (X : Here p l e R s m args below meth c Z bytes maxL ret own nm h0 n0 ws EL kn T h vm0 cells slots) (w : (Cond.fieldLink own index R0 n d).before a0 Z = true) (via : Via Z R0 O n d) (F : Fld Z h a O n d old) (E : Exa Z h a C) (L : (Cond.lays C O n d).before a0 Z = true ∨ ((Cond.laysFinal C O n d).before a0 Z = true ∧ own = O ∧ nm = "<init>")) (wi : (Cond.instantiable C kk).before a0 Z = true) (hty : parseFieldDescriptor d = some ty) (hv : narrow ty v = v') (hf : fits ty v' = true) (hd : decode bytes pc = .ok (.putfield index, 3)) (hp : pc + 3 = pc') (hn0 : n0 ≤ a) (hws : a ∈ ws ∨ h0.size ≤ a) (hsf : Safe Z EL vm0 h a)
    (k : ∀ T' h', Here p l e R s m args below meth c Z bytes maxL ret own nm h0 n0 ws EL kn T' h' vm0 cells slots → Wr h h' a (RoadKit.slotOf Z O n d) v' → CHr Z EL vm0 h vm0 h' → Go p.tables e below P (T'.setTop (mkF m pc' Ls st))) : Go p.tables e below P (T.setTop (mkF m pc Ls (v :: .ref a :: st))) := by
  obtain ⟨k0, locs, Y, N, eT, O, K, hx, hby, hml, hret, hlk, hown, hnm, hZ, hS, hk, hC, hEW, hKn, hsh⟩ := X
  subst hp
  obtain ⟨T', h', Y', e', W', st'⟩ := putFN Y hx hZ hown w via eT F E (L.imp id fun q => ⟨q.1, q.2.1, hnm.trans q.2.2⟩) wi hty hv hf (g := mkF m pc Ls (v :: .ref a :: st)) rfl rfl (hb hby hd)
  exact Go.go st' (k T' h' ⟨k0, _, Y', Fr.snoc Y' N hn0, e', O.wr W' hn0, K.wr W' hws, hx, hby, hml, hret, hlk, hown, hnm, hZ, hS, by rw [W'.size]; exact hk, hC.trans (CHr.wr W' hsf hC.1), hEW, hKn, hsh⟩ W' (CHr.wr W' hsf hC.1))
theorem o_stC {a : Addr} {ka : ClassId} {n j : Int32} {x y : Int32} {i : Nat} {vs : List Value} {d : Value} (X : Here p l e R s m args below meth c Z bytes maxL ret own nm h0 n0 ws EL kn T h vm0 cells slots) (F : Arv Z h a ka .char n vs d) (hj : ¬ j < 0 ∧ j < n) (hi : j.toNatClampNeg = i) (hil : i < vs.length) (hv : nar .char x = y) (hd : decode bytes pc = .ok (.castore, 1)) (hp : pc + 1 = pc') (hn0 : n0 ≤ a) (hws : a ∈ ws ∨ h0.size ≤ a) (hsf : Safe Z EL vm0 h a)
    (k : ∀ T' h', Here p l e R s m args below meth c Z bytes maxL ret own nm h0 n0 ws EL kn T' h' vm0 cells slots → (∃ sl w, Wr h h' a sl w) → CHr Z EL vm0 h vm0 h' → Arv Z h' a ka .char n (vs.set i (.int y)) d → Go p.tables e below P (T'.setTop (mkF m pc' Ls st))) : Go p.tables e below P (T.setTop (mkF m pc Ls (.int x :: .int j :: .ref a :: st))) := by
  obtain ⟨k0, locs, Y, N, eT, O, K, hx, hby, hml, hret, hlk, hown, hnm, hZ, hS, hk, hC, hEW, hKn, hsh⟩ := X
  subst hp hv
  obtain ⟨cl, A, q1, S, q, H, G⟩ := F
  obtain ⟨T', h', Y', e', W', st'⟩ := RoadKit.stC Y hx hZ eT A (inb_of S hj) (g := mkF m pc Ls (.int x :: .int j :: .ref a :: st)) rfl rfl (hb hby hd)
  exact Go.go st' (k T' h' ⟨k0, _, Y', Fr.snoc Y' N hn0, e', O.wr W' hn0, K.wr W' hws, hx, hby, hml, hret, hlk, hown, hnm, hZ, hS, by rw [W'.size]; exact hk, hC.trans (CHr.wr W' hsf hC.1), hEW, hKn, hsh⟩ ⟨_, _, W'⟩ (CHr.wr W' hsf hC.1) (Arv.set A q1 S q H G (fits_nar_char _) W' i hi hil))
theorem o_stB {a : Addr} {ka : ClassId} {n j : Int32} {x y : Int32} {i : Nat} {vs : List Value} {d : Value} (X : Here p l e R s m args below meth c Z bytes maxL ret own nm h0 n0 ws EL kn T h vm0 cells slots) (F : Arv Z h a ka .byte n vs d) (hj : ¬ j < 0 ∧ j < n) (hi : j.toNatClampNeg = i) (hil : i < vs.length) (hv : nar .byte x = y) (hd : decode bytes pc = .ok (.bastore, 1)) (hp : pc + 1 = pc') (hn0 : n0 ≤ a) (hws : a ∈ ws ∨ h0.size ≤ a) (hsf : Safe Z EL vm0 h a)
    (k : ∀ T' h', Here p l e R s m args below meth c Z bytes maxL ret own nm h0 n0 ws EL kn T' h' vm0 cells slots → (∃ sl w, Wr h h' a sl w) → CHr Z EL vm0 h vm0 h' → Arv Z h' a ka .byte n (vs.set i (.int y)) d → Go p.tables e below P (T'.setTop (mkF m pc' Ls st))) : Go p.tables e below P (T.setTop (mkF m pc Ls (.int x :: .int j :: .ref a :: st))) := by
  obtain ⟨k0, locs, Y, N, eT, O, K, hx, hby, hml, hret, hlk, hown, hnm, hZ, hS, hk, hC, hEW, hKn, hsh⟩ := X
  subst hp hv
  obtain ⟨cl, A, q1, S, q, H, G⟩ := F
  obtain ⟨T', h', Y', e', W', st'⟩ := RoadKit.stB Y hx hZ eT A (inb_of S hj) (g := mkF m pc Ls (.int x :: .int j :: .ref a :: st)) rfl rfl (hb hby hd)
  exact Go.go st' (k T' h' ⟨k0, _, Y', Fr.snoc Y' N hn0, e', O.wr W' hn0, K.wr W' hws, hx, hby, hml, hret, hlk, hown, hnm, hZ, hS, by rw [W'.size]; exact hk, hC.trans (CHr.wr W' hsf hC.1), hEW, hKn, hsh⟩ ⟨_, _, W'⟩ (CHr.wr W' hsf hC.1) (Arv.set A q1 S q H G (fits_nar_byte _) W' i hi hil))
theorem o_cp {index : Nat} {b a : Addr} {ka kb : ClassId} {ty ty' : FieldType} {z z' sp dp nn : Int32} {vs vd us vr : List Value} {dv dd : Value} {W : Nat} (X : Here p l e R s m args below meth c Z bytes maxL ret own nm h0 n0 ws EL kn T h vm0 cells slots) (w1 : (Cond.methodLink own index Jvm.Stand.acN).before a0 Z = true) (w2 : (Cond.native Jvm.Stand.acN).before a0 Z = true) (w3 : (Cond.static Jvm.Stand.acN).before a0 Z = true) (w4 : (Cond.initialized "java/lang/System").before a0 Z = true) (A : Arv Z h b kb ty z vs dv) (B : Arv Z h a ka ty' z' vd dd) (hty : (ty = ty' ∧ refKind ty = false) ∨ (refKind ty = true ∧ refKind ty' = true ∧ StoL Z h a us))
    (h1 : ¬ sp < 0) (h2 : ¬ dp < 0) (h3 : ¬ nn < 0) (h4 : sp.toNatClampNeg + nn.toNatClampNeg ≤ z.toNatClampNeg) (h5 : dp.toNatClampNeg + nn.toNatClampNeg ≤ z'.toNatClampNeg) (hus : us = (List.range nn.toNatClampNeg).map fun i => vs.getD (sp.toNatClampNeg + i) dv) (hl : dp.toNatClampNeg + nn.toNatClampNeg ≤ vd.length) (hvr : vd.take dp.toNatClampNeg ++ us ++ vd.drop (dp.toNatClampNeg + nn.toNatClampNeg) = vr)
    (hd : decode bytes pc = .ok (.invokestatic index, 3)) (hp : pc + 3 = pc') (hsz : Ls.size = maxL) (hf : 1 ≤ R.frames) (hW : (rest.map fun v => v.category).sum ≤ W) (hlo : W + (nativeFrameWords "java/lang/System" "arraycopy" 5 + 11) ≤ R.locals) (hn0 : n0 ≤ a) (hws : a ∈ ws ∨ h0.size ≤ a) (hsf : Safe Z EL vm0 h a)
    (k : ∀ T' h', Here p l e R s m args below meth c Z bytes maxL ret own nm h0 n0 ws EL kn T' h' vm0 cells slots → Keep h h' [a] → CHr Z EL vm0 h vm0 h' → Arv Z h' a ka ty' z' vr dd → Go p.tables e below P (T'.setTop (mkF m pc' Ls rest))) : Go p.tables e below P (T.setTop (mkF m pc Ls (.int nn :: .int dp :: .ref a :: .int sp :: .ref b :: rest))) := by
  obtain ⟨k0, locs, Y, N, eT, O, K, hx, hby, hml, hret, hlk, hown, hnm, hZ, hS, hk, hC, hEW, hKn, hsh⟩ := X
  subst hp hvr
  obtain ⟨T', h', L', Y', e', N', K', A', st'⟩ := cpA Y hx hZ hown w1 w2 w3 w4 eT A B hty h1 h2 h3 h4 h5 hus hl N hn0 (g := mkF m pc Ls (.int nn :: .int dp :: .ref a :: .int sp :: .ref b :: rest)) rfl (by rw [hml]; exact hsz) rfl (hb hby hd) hf (W := W) (by show 2 * 0 + _ ≤ _; omega) hlo
  exact Go.go st' (k T' h' ⟨k0, L', Y', N', e', O.keep K' (allS hn0 all0), K.trans K' (allS hws all0), hx, hby, hml, hret, hlk, hown, hnm, hZ, hS, Nat.le_trans hk K'.1, hC.trans (CHr.keep K' (allS hsf all0) hC.1), hEW, hKn, hsh⟩ K' (CHr.keep K' (allS hsf all0) hC.1) A')
theorem o_ldcI {index : Nat} {v : Int32} (X : Here p l e R s m args below meth c Z bytes maxL ret own nm h0 n0 ws EL kn T h vm0 cells slots) (w : (Cond.constant own index v).before a0 Z = true) (hd : decode bytes pc = .ok (.ldc index, 2)) (hp : pc + 2 = pc')
    (k : Go p.tables e below P (T.setTop (mkF m pc' Ls (.int v :: st)))) : Go p.tables e below P (T.setTop (mkF m pc Ls st)) := by
  obtain ⟨k0, locs, Y, N, eT, O, K, hx, hby, hml, hret, hlk, hown, hnm, hZ, hS, hk, hC, hEW, hKn, hsh⟩ := X
  subst hp
  exact Go.go (Y.ldcInt hx hown (mvT hZ w) (g := mkF m pc Ls st) rfl (hb hby hd)) k
theorem oz  {Po : Option Value → Heap → Vm → Prop} (X : Here p l e R s m args below meth c Z bytes maxL ret own nm h0 n0 ws EL kn T h vm0 cells slots) (hd : decode bytes pc = .ok (.return_, 1)) (hr0 : ret = none) (hc : cells ≤ R.cells) (hs : slots ≤ R.slots) (hQ : ∀ vm', CHr Z EL vm0 h vm' h → Po (none) h vm') : Go p.tables e below (PO s R h0 n0 ws Z EL Po) (T.setTop (mkF m pc Ls [])) := by
  obtain ⟨k0, locs, Y, N, eT, O, K, hx, hby, hml, hret, hlk, hown, hnm, hZ, hS, hk, hC, hEW, hKn, hsh⟩ := X
  obtain ⟨fs, hr, hrun, hended, hW, hsame⟩ := Y.leave (v := none) (fun _ => rfl) hlk
  have hE := hS.ended (U := T.setFrames fs) hW (by show k0 ≤ T.heap.size; rw [eT]; exact hk) (hsame.mono hc hs)
  obtain ⟨a1, hew⟩ := hEW
  have hC1 : CHr Z EL vm0 h T.vm h := CHv.at Y hZ hew hC.1
  have hC2 : CHr Z EL s.vm s.heap T.vm T.heap := by
    rw [hsh, eT]
    exact hC.trans hC1
  refine ⟨_, _, ?_, hrun, hended, _, _, rfl, ⟨N, ?_, ?_⟩, hC2, ⟨_, rfl⟩, hE.1, hE.2.1, hE.2.2⟩
  · exact Y.returnOut hx (hret.trans hr0) (hb hby hd) hr
  · show Keep h0 T.heap ws
    rw [eT]; exact K
  · show Po _ T.heap T.vm
    rw [eT]; exact hQ _ hC1
theorem o_iret {z : Int32} {Po : Option Value → Heap → Vm → Prop} (X : Here p l e R s m args below meth c Z bytes maxL ret own nm h0 n0 ws EL kn T h vm0 cells slots) (hd : decode bytes pc = .ok (.ireturn, 1)) (hr0 : ret = some .int) (hc : cells ≤ R.cells) (hs : slots ≤ R.slots) (hQ : ∀ vm', CHr Z EL vm0 h vm' h → Po (some (.int z)) h vm') : Go p.tables e below (PO s R h0 n0 ws Z EL Po) (T.setTop (mkF m pc Ls (.int z :: rest))) := by
  obtain ⟨k0, locs, Y, N, eT, O, K, hx, hby, hml, hret, hlk, hown, hnm, hZ, hS, hk, hC, hEW, hKn, hsh⟩ := X
  obtain ⟨fs, hr, hrun, hended, hW, hsame⟩ := Y.leave (v := some (.int z)) (fun h => by rw [hret, hr0] at h; cases h) hlk
  have hE := hS.ended (U := T.setFrames fs) hW (by show k0 ≤ T.heap.size; rw [eT]; exact hk) (hsame.mono hc hs)
  obtain ⟨a1, hew⟩ := hEW
  have hC1 : CHr Z EL vm0 h T.vm h := CHv.at Y hZ hew hC.1
  have hC2 : CHr Z EL s.vm s.heap T.vm T.heap := by
    rw [hsh, eT]
    exact hC.trans hC1
  refine ⟨_, _, ?_, hrun, hended, _, _, rfl, ⟨N, ?_, ?_⟩, hC2, ⟨_, rfl⟩, hE.1, hE.2.1, hE.2.2⟩
  · exact retOut Y hx (hret.trans hr0) rfl (Or.inl ⟨rfl, Or.inl rfl, _, rfl⟩) (hb hby hd) hr
  · show Keep h0 T.heap ws
    rw [eT]; exact K
  · show Po _ T.heap T.vm
    rw [eT]; exact hQ _ hC1
theorem o_nret {z y : Int32} {t : FieldType} {Po : Option Value → Heap → Vm → Prop} (X : Here p l e R s m args below meth c Z bytes maxL ret own nm h0 n0 ws EL kn T h vm0 cells slots) (hd : decode bytes pc = .ok (.ireturn, 1)) (hr0 : ret = some t) (hv : nar t z = y) (ht : t = .boolean ∨ t = .byte ∨ t = .char ∨ t = .short) (hc : cells ≤ R.cells) (hs : slots ≤ R.slots) (hQ : ∀ vm', CHr Z EL vm0 h vm' h → Po (some (.int y)) h vm') : Go p.tables e below (PO s R h0 n0 ws Z EL Po) (T.setTop (mkF m pc Ls (.int z :: rest))) := by
  obtain ⟨k0, locs, Y, N, eT, O, K, hx, hby, hml, hret, hlk, hown, hnm, hZ, hS, hk, hC, hEW, hKn, hsh⟩ := X
  obtain ⟨fs, hr, hrun, hended, hW, hsame⟩ := Y.leave (v := some (.int y)) (fun h => by rw [hret, hr0] at h; cases h) hlk
  have hE := hS.ended (U := T.setFrames fs) hW (by show k0 ≤ T.heap.size; rw [eT]; exact hk) (hsame.mono hc hs)
  obtain ⟨a1, hew⟩ := hEW
  have hC1 : CHr Z EL vm0 h T.vm h := CHv.at Y hZ hew hC.1
  have hC2 : CHr Z EL s.vm s.heap T.vm T.heap := by
    rw [hsh, eT]
    exact hC.trans hC1
  refine ⟨_, _, ?_, hrun, hended, _, _, rfl, ⟨N, ?_, ?_⟩, hC2, ⟨_, rfl⟩, hE.1, hE.2.1, hE.2.2⟩
  · subst hv; exact retN Y hx (hret.trans hr0) ht (hb hby hd) hr
  · show Keep h0 T.heap ws
    rw [eT]; exact K
  · show Po _ T.heap T.vm
    rw [eT]; exact hQ _ hC1
theorem oR {w : Value} {t : FieldType} {Po : Option Value → Heap → Vm → Prop} (X : Here p l e R s m args below meth c Z bytes maxL ret own nm h0 n0 ws EL kn T h vm0 cells slots) (hd : decode bytes pc = .ok (.areturn, 1)) (hr0 : ret = some t) (ht : t.isReference = true) (hw : w.isRef = true) (hc : cells ≤ R.cells) (hs : slots ≤ R.slots) (hQ : ∀ vm', CHr Z EL vm0 h vm' h → Po (some w) h vm') : Go p.tables e below (PO s R h0 n0 ws Z EL Po) (T.setTop (mkF m pc Ls (w :: rest))) := by
  obtain ⟨k0, locs, Y, N, eT, O, K, hx, hby, hml, hret, hlk, hown, hnm, hZ, hS, hk, hC, hEW, hKn, hsh⟩ := X
  obtain ⟨fs, hr, hrun, hended, hW, hsame⟩ := Y.leave (v := some w) (fun h => by rw [hret, hr0] at h; cases h) hlk
  have hE := hS.ended (U := T.setFrames fs) hW (by show k0 ≤ T.heap.size; rw [eT]; exact hk) (hsame.mono hc hs)
  obtain ⟨a1, hew⟩ := hEW
  have hC1 : CHr Z EL vm0 h T.vm h := CHv.at Y hZ hew hC.1
  have hC2 : CHr Z EL s.vm s.heap T.vm T.heap := by
    rw [hsh, eT]
    exact hC.trans hC1
  refine ⟨_, _, ?_, hrun, hended, _, _, rfl, ⟨N, ?_, ?_⟩, hC2, ⟨_, rfl⟩, hE.1, hE.2.1, hE.2.2⟩
  · exact retOut Y hx (hret.trans hr0) (by rcases ref_cases hw with rfl | ⟨a, rfl⟩ <;> cases t <;> first | rfl | cases ht) (Or.inr (Or.inr (Or.inr (Or.inr ⟨rfl, ht, hw⟩)))) (hb hby hd) hr
  · show Keep h0 T.heap ws
    rw [eT]; exact K
  · show Po _ T.heap T.vm
    rw [eT]; exact hQ _ hC1
theorem o_static {index : Nat} {y : MethodName} {bytes' : ByteArray} {maxL' : Nat} {ret' : Option FieldType} {W kc ks : Nat} {Q : Option Value → Heap → Vm → List Loc → Prop} {ws' : List Addr} {argsL : List Value} (X : Here p l e R s m args below meth c Z bytes maxL ret own nm h0 n0 ws EL kn T h vm0 cells slots) (w1 : (Cond.methodLink own index y).before a0 Z = true) (w2 : (Cond.static y).before a0 Z = true) (w3 : (Cond.initialized y.cls).before a0 Z = true) (w4 : (Cond.code y bytes' maxL' ret').before a0 Z = true) (hy : y.cls ≠ "java/lang/invoke/MethodHandle" ∧ y.cls ≠ "java/lang/invoke/VarHandle") (hlen : ∀ sig, parseMethodDescriptor y.desc = some sig → argsL.length = sig.parameters.length) (hK : BackS l R p e below (s.setVm vm0) args y 3 W (fun A a => a = argsL.toArray ∧ A.U.heap = h ∧ A.cells + kc ≤ R.cells ∧ A.slots + ks ≤ R.slots) (fun A _ v B => ∃ L, Q v B.U.heap B.U.vm L ∧ B.locs = A.locs ++ L ∧ B.cells = A.cells + kc ∧ B.slots = A.slots + ks ∧ CHr Z EL vm0 h B.U.vm B.U.heap)) (hd : decode bytes pc = .ok (.invokestatic index, 3)) (hp : pc + 3 = pc') (hsz : Ls.size = maxL) (hstk : st = argsL.reverse ++ rest) (hW : (rest.map fun v => v.category).sum ≤ W) (hc : cells + kc ≤ R.cells) (hs : slots + ks ≤ R.slots) (hQ : ∀ v h' vm' L, Q v h' vm' L → Fr n0 L ∧ Keep h h' ws') (hws : ∀ x ∈ ws', n0 ≤ x ∧ (x ∈ ws ∨ h0.size ≤ x))
    (k : ∀ v T' h' L vm', Here p l e R s m args below meth c Z bytes maxL ret own nm h0 n0 ws EL kn T' h' vm' (cells + kc) (slots + ks) → Q v h' vm' L → Keep h h' ws' → CHr Z EL vm0 h vm' h' → Go p.tables e below P (T'.setTop (mkF m pc' Ls (v.toList ++ rest)))) : Go p.tables e below P (T.setTop (mkF m pc Ls st)) := by
  obtain ⟨k0, locs, Y, N, eT, O, K, hx, hby, hml, hret, hlk, hown, hnm, hZ, hS, hk, hC, hEW, hKn, hsh⟩ := X
  subst hp hstk
  obtain ⟨v, vm₁, ⟨T', L', k', n'⟩, -, X', hS', hg', ⟨L, hq, l', y', z', hC'⟩, st'⟩ := RoadKit.callSS Y hx hown (mvT hZ w1) (mvT hZ w2) (mvT hZ w3) (mvT hZ w4) hy hK (g := mkF m pc Ls (argsL.reverse ++ rest)) rfl (by rw [hml]; exact hsz) (argsL := argsL) (rest := rest) hlen rfl (by show 2 * 0 + _ ≤ _; omega) (hb hby hd) (fun _ _ => ⟨rfl, eT, hc, hs⟩)
  dsimp only [Pt.U, Pt.locs, Pt.cells, Pt.slots] at X' hS' hg' l' y' z' st' hq hC'
  subst l' y' z'
  obtain ⟨f1, f2⟩ := hQ _ _ _ _ hq
  have hZ' : Z.Warmed39 T'.vm := State.Warmed39.trans (t := s.setVm vm0) hZ hS'.1
  have hown' : T'.vm.findClass own = some m.cls := by
    have q := hS'.1.alike.findClass (name := own)
    exact (q _).trans hown
  exact Go.go (fun t q => st'.trans q) (k v T' _ L T'.vm ⟨T'.heap.size, _, X', N.app f1, rfl, O.keep f2 (fun x hx => (hws x hx).1), K.trans f2 (fun x hx => (hws x hx).2), hx, hby, hml, hret, hlk, hown', hnm, hZ', hS.trans hS' (Nat.le_trans hk (by rw [← eT]; exact hg')), Nat.le_refl _, hC.trans hC', hEW, KnP.alike hKn hS'.1.alike, hsh⟩ hq f2 hC')
theorem o_special {index : Nat} {y : MethodName} {bytes' : ByteArray} {maxL' : Nat} {b : Addr} {W kc ks : Nat} {Q : Option Value → Heap → Vm → List Loc → Prop} {ws' : List Addr} {argsL : List Value} (X : Here p l e R s m args below meth c Z bytes maxL ret own nm h0 n0 ws EL kn T h vm0 cells slots) (hy1 : y.name = "<init>") (w1 : (Cond.methodLink own index y).before a0 Z = true) (w2 : (Cond.instanceMethod y).before a0 Z = true) (w4 : (Cond.code y bytes' maxL' none).before a0 Z = true) (hy : y.cls ≠ "java/lang/invoke/MethodHandle" ∧ y.cls ≠ "java/lang/invoke/VarHandle") (hlen : ∀ sig, parseMethodDescriptor y.desc = some sig → argsL.length = sig.parameters.length) (hK : BackS l R p e below (s.setVm vm0) args y 3 W (fun A a => a = (.ref b :: argsL).toArray ∧ A.U.heap = h ∧ A.cells + kc ≤ R.cells ∧ A.slots + ks ≤ R.slots) (fun A _ v B => ∃ L, Q v B.U.heap B.U.vm L ∧ B.locs = A.locs ++ L ∧ B.cells = A.cells + kc ∧ B.slots = A.slots + ks ∧ CHr Z EL vm0 h B.U.vm B.U.heap)) (hd : decode bytes pc = .ok (.invokespecial index, 3)) (hp : pc + 3 = pc') (hsz : Ls.size = maxL) (hstk : st = argsL.reverse ++ .ref b :: rest) (hW : (rest.map fun v => v.category).sum ≤ W) (hc : cells + kc ≤ R.cells) (hs : slots + ks ≤ R.slots) (hQ : ∀ v h' vm' L, Q v h' vm' L → Fr n0 L ∧ Keep h h' ws') (hws : ∀ x ∈ ws', n0 ≤ x ∧ (x ∈ ws ∨ h0.size ≤ x))
    (k : ∀ v T' h' L vm', Here p l e R s m args below meth c Z bytes maxL ret own nm h0 n0 ws EL kn T' h' vm' (cells + kc) (slots + ks) → Q v h' vm' L → Keep h h' ws' → CHr Z EL vm0 h vm' h' → Go p.tables e below P (T'.setTop (mkF m pc' Ls (v.toList ++ rest)))) : Go p.tables e below P (T.setTop (mkF m pc Ls st)) := by
  obtain ⟨k0, locs, Y, N, eT, O, K, hx, hby, hml, hret, hlk, hown, hnm, hZ, hS, hk, hC, hEW, hKn, hsh⟩ := X
  subst hp hstk
  obtain ⟨v, vm₁, ⟨T', L', k', n'⟩, -, X', hS', hg', ⟨L, hq, l', y', z', hC'⟩, st'⟩ := Y.specialBackS hx hy1 hown (mvT hZ w1) (mvT hZ w2) (mvT hZ w4) hy hK (g := mkF m pc Ls (argsL.reverse ++ .ref b :: rest)) rfl (by rw [hml]; exact hsz) (Steps.refl _) (a := b) (argsL := argsL) (rest := rest) hlen rfl (by show 2 * 0 + _ ≤ _; omega) (hb hby hd) (fun _ _ => ⟨rfl, eT, hc, hs⟩)
  dsimp only [Pt.U, Pt.locs, Pt.cells, Pt.slots] at X' hS' hg' l' y' z' st' hq hC'
  subst l' y' z'
  obtain ⟨f1, f2⟩ := hQ _ _ _ _ hq
  have hZ' : Z.Warmed39 T'.vm := State.Warmed39.trans (t := s.setVm vm0) hZ hS'.1
  have hown' : T'.vm.findClass own = some m.cls := by
    have q := hS'.1.alike.findClass (name := own)
    exact (q _).trans hown
  exact Go.go (fun t q => st'.trans q) (k v T' _ L T'.vm ⟨T'.heap.size, _, X', N.app f1, rfl, O.keep f2 (fun x hx => (hws x hx).1), K.trans f2 (fun x hx => (hws x hx).2), hx, hby, hml, hret, hlk, hown', hnm, hZ', hS.trans hS' (Nat.le_trans hk (by rw [← eT]; exact hg')), Nat.le_refl _, hC.trans hC', hEW, KnP.alike hKn hS'.1.alike, hsh⟩ hq f2 hC')
theorem o_virtual {index : Nat} {C : String} {y z : MethodName} {b : Addr} {W kc ks : Nat} {Q : Option Value → Heap → Vm → List Loc → Prop} {ws' : List Addr} {argsL : List Value} (X : Here p l e R s m args below meth c Z bytes maxL ret own nm h0 n0 ws EL kn T h vm0 cells slots) (E : Exa Z h b C) (w1 : (Cond.methodLink own index y).before a0 Z = true) (w2 : (Cond.declares y).before a0 Z = true) (w3 : (Cond.selects C y z).before a0 Z = true) (w4 : (Cond.instanceMethod z).before a0 Z = true) (nf : ∀ s' : State, Z.Warmed39 s'.vm → NotFace s' y) (hy : y.cls ≠ "java/lang/invoke/MethodHandle" ∧ y.cls ≠ "java/lang/invoke/VarHandle") (hlen : ∀ sig, parseMethodDescriptor y.desc = some sig → argsL.length = sig.parameters.length) (hK : BackS l R p e below (s.setVm vm0) args z 3 W (fun A a => a = (.ref b :: argsL).toArray ∧ A.U.heap = h ∧ A.cells + kc ≤ R.cells ∧ A.slots + ks ≤ R.slots) (fun A _ v B => ∃ L, Q v B.U.heap B.U.vm L ∧ B.locs = A.locs ++ L ∧ B.cells = A.cells + kc ∧ B.slots = A.slots + ks ∧ CHr Z EL vm0 h B.U.vm B.U.heap)) (hd : decode bytes pc = .ok (.invokevirtual index, 3)) (hp : pc + 3 = pc') (hsz : Ls.size = maxL) (hstk : st = argsL.reverse ++ .ref b :: rest) (hW : (rest.map fun v => v.category).sum ≤ W) (hc : cells + kc ≤ R.cells) (hs : slots + ks ≤ R.slots) (hQ : ∀ v h' vm' L, Q v h' vm' L → Fr n0 L ∧ Keep h h' ws') (hws : ∀ x ∈ ws', n0 ≤ x ∧ (x ∈ ws ∨ h0.size ≤ x))
    (k : ∀ v T' h' L vm', Here p l e R s m args below meth c Z bytes maxL ret own nm h0 n0 ws EL kn T' h' vm' (cells + kc) (slots + ks) → Q v h' vm' L → Keep h h' ws' → CHr Z EL vm0 h vm' h' → Go p.tables e below P (T'.setTop (mkF m pc' Ls (v.toList ++ rest)))) : Go p.tables e below P (T.setTop (mkF m pc Ls st)) := by
  obtain ⟨k0, locs, Y, N, eT, O, K, hx, hby, hml, hret, hlk, hown, hnm, hZ, hS, hk, hC, hEW, hKn, hsh⟩ := X
  obtain ⟨cq, kq, qa, qb, qc⟩ := isOf (s := s.setVm vm0) hZ eT E
  subst hp hstk
  obtain ⟨v, vm₁, ⟨T', L', k', n'⟩, -, X', hS', hg', ⟨L, hq, l', y', z', hC'⟩, st'⟩ := (Y.virtualBackS hx (y := y) (z := z) hown (mvT hZ w1) (mvT hZ w2) (nf _ hZ) (mvT hZ w3) (mvT hZ w4) hy hK qa qc (g := mkF m pc Ls (argsL.reverse ++ .ref b :: rest)) rfl (by rw [hml]; exact hsz) (Steps.refl _) (argsL := argsL) (rest := rest) hlen rfl (by show 2 * 0 + _ ≤ _; omega) (hb hby hd) (fun _ _ => ⟨rfl, eT, hc, hs⟩))
  dsimp only [Pt.U, Pt.locs, Pt.cells, Pt.slots] at X' hS' hg' l' y' z' st' hq hC'
  subst l' y' z'
  obtain ⟨f1, f2⟩ := hQ _ _ _ _ hq
  have hZ' : Z.Warmed39 T'.vm := State.Warmed39.trans (t := s.setVm vm0) hZ hS'.1
  have hown' : T'.vm.findClass own = some m.cls := by
    have q := hS'.1.alike.findClass (name := own)
    exact (q _).trans hown
  exact Go.go (fun t q => st'.trans q) (k v T' _ L T'.vm ⟨T'.heap.size, _, X', N.app f1, rfl, O.keep f2 (fun x hx => (hws x hx).1), K.trans f2 (fun x hx => (hws x hx).2), hx, hby, hml, hret, hlk, hown', hnm, hZ', hS.trans hS' (Nat.le_trans hk (by rw [← eT]; exact hg')), Nat.le_refl _, hC.trans hC', hEW, KnP.alike hKn hS'.1.alike, hsh⟩ hq f2 hC')
theorem o_ldcC {index : Nat} {text : String} {n : Nat} {vs : List Value} {z : Int32} (X : Here p l e R s m args below meth c Z bytes maxL ret own nm h0 n0 ws EL kn T h vm0 cells slots) (w : (Cond.stringLink own index text).before a0 Z = true) (wS : ∀ a ∈ Bundle.stringAtoms, a.before a0 Z = true) (hmem : (own, index) ∈ EL) (ht : (∀ c ∈ text.toList, c.toNat < 256) ∧ text.toList.map (fun c => Value.int (Jvm.Lit.byteI c.toNat.toUInt16)) = vs) (hz : ¬ z < 0) (hlz : z.toNatClampNeg = vs.length) (hd : decode bytes pc = .ok (.ldc index, 2)) (hp : pc + 2 = pc') (hn : 4 * text.toList.length ≤ n) (hbig : n ≤ 536870912) (hc : cells + 2 ≤ R.cells) (hl : slots + (n + 4) ≤ R.slots)
    (k : ∀ a b kb T' h' vm', Here p l e R s m args below meth c Z bytes maxL ret own nm h0 n0 ws EL kn T' h' vm' (cells + 2) (slots + (n + 4)) → Ext h h' → CHr Z EL vm0 h vm' h' → Exa Z h' a "java/lang/String" → Fld Z h' a "java/lang/String" "coder" "B" (.int 0) → Fld Z h' a "java/lang/String" "value" "[B" (.ref b) → Arv Z h' b kb .byte z vs (.int 0) → (∀ x, Safe Z EL vm' h' x → x ≠ a ∧ x ≠ b) → Go p.tables e below P (T'.setTop (mkF m pc' Ls (.ref a :: st)))) : Go p.tables e below P (T.setTop (mkF m pc Ls st)) := by
  obtain ⟨k0, locs, Y, N, eT, O, K, hx, hby, hml, hret, hlk, hown, hnm, hZ, hS, hk, hC, ⟨a1, hEW⟩, hKn, hsh⟩ := X
  subst hp
  obtain ⟨a, T', h', k1, b, kb, Y', e', E', hS', hk', hZ', hown', q1, q2, q3, q4, -, -, hC', -, q5, st'⟩ := ldcCH Y hx hZ hown w wS eT hS hk hEW hmem hC.1 ht hz hlz (g := mkF m pc Ls st) rfl (hb hby hd) hn hbig hc hl
  have hal : vm0.Alike T'.vm := hZ.alike.symm.trans hZ'.alike
  exact Go.go st' (k a b kb T' h' T'.vm ⟨k1, locs, Y', N, e', O.ext E', K.ext E', hx, hby, hml, hret, hlk, hown', hnm, hZ', hS', hk', hC.trans hC', ⟨a1, hEW⟩, KnP.alike hKn hal, hsh⟩ E' hC' q1 q2 q3 q4 q5)
theorem back_met {y : MethodName} {bytes' : ByteArray} {maxL' : Nat} {ret' : Option FieldType} {rm : Room} {len W : Nat} {as' : Array Value} {ws' sf' : List Addr} {Po : Option Value → Heap → Vm → Prop} (hM : Met l y bytes' maxL' ret' [] rm Z as' h n0 ws' EL kn sf' Po) (X : Here p l e R s m args below meth c Z bytes maxL ret own nm h0 n0 ws EL kn T h vm0 cells slots) (wc : (Cond.code y bytes' maxL' ret').before a0 Z = true) (wz : (Cond.initialized y.cls).before a0 Z = true) (hf : rm.frames + 1 ≤ R.frames) (hl : W + (maxL' + 11) + rm.locals ≤ R.locals) (hsf : ∀ x ∈ sf', x < h.size ∧ Safe Z EL vm0 h x) :
    BackS l R p e below (s.setVm vm0) args y len W (fun A a => a = as' ∧ A.U.heap = h ∧ A.cells + rm.cells ≤ R.cells ∧ A.slots + rm.slots ≤ R.slots) (fun A _ v B => ∃ L, QQ h n0 ws' Po v B.U.heap B.U.vm L ∧ B.locs = A.locs ++ L ∧ B.cells = A.cells + rm.cells ∧ B.slots = A.slots + rm.slots ∧ CHr Z EL vm0 h B.U.vm B.U.heap) := by
  obtain ⟨k0, locs, Y, N, eT, O, K, hx, hby, hml, hret, hlk, hown, hnm, hZ, hS, hk, hC, ⟨a1, hEW⟩, hKn, hsh⟩ := X
  refine BackS.of_freeWG (s := s.setVm vm0) (bytes := bytes') (maxL := maxL') (ret := ret') (E := fun _ first o t L k n => k = rm.cells ∧ n = rm.slots ∧ (∃ v, o = .returned v ∧ QQ h n0 ws' Po v t.heap t.vm L) ∧ CHr Z EL first.vm first.heap t.vm t.heap) hM hf hl ?_ ?_ ?_ ?_ ?_
  · intro m meth c A a Y hp
    have hU : Z.Warmed39 A.U.vm := wtrans (s := s.setVm vm0) hZ Y.warmed
    exact ⟨by show (Cond.and _ .tt).before a A.U = true; rw [Cond.before_and, mv hU wc]; rfl, mv hU wc, mv hU wz, hp.2.2.1, hp.2.2.2⟩
  · intro m meth c A a g mk Y hp
    have c1 := CHv.at Y hZ hEW hC.1
    exact ⟨hp.1, wtrans (s := s.setVm vm0) hZ Y.warmed, hp.2.1, c1.1, fun x hx => c1.safe (hsf x hx).1 (hsf x hx).2⟩
  · intro m meth c A a g mk Y _ hg q
    exact known_frames Y hg (hKn q).1 (hKn q).2
  · rintro _ _ _ _ ⟨v, L, h1, h2, h3, h4⟩
    exact ⟨L, _, _, h4, rfl, rfl, ⟨v, h1, h2⟩, h3⟩
  · rintro m meth c A a g mk v t L k n Y hp _ _ ⟨e1, e2, ⟨v', e3, e4⟩, e5⟩
    cases e3; subst e1 e2
    refine ⟨L, e4, rfl, rfl, rfl, (CHv.at Y hZ hEW hC.1).trans ?_⟩
    rw [← hp.2.1]; exact e5
theorem nf_sel {C : String} {y : MethodName} (w : (Cond.selects C y y).before a0 Z = true) : ∀ s' : State, Z.Warmed39 s'.vm → NotFace s' y := fun s' hz => notFace_of_selects (args := #[]) (mvT hz w)
theorem qq_fr {ws' : List Addr} {Po : Option Value → Heap → Vm → Prop} : ∀ v h' vm' L, QQ h n0 ws' Po v h' vm' L → Fr n0 L ∧ Keep h h' ws' := fun _ _ _ _ q => ⟨q.1, q.2.1⟩
theorem nP (cap : Nat) {aty : ArrayType} {n : Int32} {ad : String} (X : Here p l e R s m args below meth c Z bytes maxL ret own nm h0 n0 ws EL kn T h vm0 cells slots) (w : (Cond.arrayClass (newarray.typeOf aty)).before a0 Z = true) (hd : decode bytes pc = .ok (.newarray aty, 2)) (hp : pc + 2 = pc') (hq : ¬ n < 0 ∧ n.toNatClampNeg ≤ cap ∧ cap * 8 ≤ 536870912 ∧ cells + 1 ≤ R.cells ∧ slots + cap ≤ R.slots) (had : "[" ++ (newarray.typeOf aty).toString = ad)
    (k : ∀ T' h' b ka, Here p l e R s m args below meth c Z bytes maxL ret own nm h0 n0 ws EL kn T' h' vm0 (cells + 1) (slots + cap) → b = h.size → b < h'.size → Ext h h' → Arv Z h' b ka (newarray.typeOf aty) n [] (defaultValue (newarray.typeOf aty)) → Exa Z h' b ad → CHr Z EL vm0 h vm0 h' → Safe Z EL vm0 h' b → Go p.tables e below P (T'.setTop (mkF m pc' Ls (.ref b :: st)))) : Go p.tables e below P (T.setTop (mkF m pc Ls (.int n :: st))) := o_newP pc' X w hd hp hq.1 hq.2.1 hq.2.2.1 hq.2.2.2.1 hq.2.2.2.2 had k
theorem had_byte : "[" ++ (newarray.typeOf .byte).toString = "[B" := by decide +kernel
theorem had_char : "[" ++ (newarray.typeOf .char).toString = "[C" := by decide +kernel
theorem sC (i : Nat) (y : Int32) {a : Addr} {ka : ClassId} {n j x : Int32} {vs : List Value} {d : Value} (X : Here p l e R s m args below meth c Z bytes maxL ret own nm h0 n0 ws EL kn T h vm0 cells slots) (F : Arv Z h a ka .char n vs d) (hj : (¬ j < 0 ∧ j < n) ∧ j.toNatClampNeg = i) (hil : i < vs.length) (hv : nar .char x = y) (hd : decode bytes pc = .ok (.castore, 1)) (hp : pc + 1 = pc') (hn0 : n0 ≤ a) (hws : a ∈ ws ∨ h0.size ≤ a) (hsf : Safe Z EL vm0 h a)
    (k : ∀ T' h', Here p l e R s m args below meth c Z bytes maxL ret own nm h0 n0 ws EL kn T' h' vm0 cells slots → (∃ sl w, Wr h h' a sl w) → CHr Z EL vm0 h vm0 h' → Arv Z h' a ka .char n (vs.set i (.int y)) d → Go p.tables e below P (T'.setTop (mkF m pc' Ls st))) : Go p.tables e below P (T.setTop (mkF m pc Ls (.int x :: .int j :: .ref a :: st))) := o_stC pc' X F hj.1 hj.2 hil hv hd hp hn0 hws hsf k
theorem sB (i : Nat) (y : Int32) {a : Addr} {ka : ClassId} {n j x : Int32} {vs : List Value} {d : Value} (X : Here p l e R s m args below meth c Z bytes maxL ret own nm h0 n0 ws EL kn T h vm0 cells slots) (F : Arv Z h a ka .byte n vs d) (hj : (¬ j < 0 ∧ j < n) ∧ j.toNatClampNeg = i) (hil : i < vs.length) (hv : nar .byte x = y) (hd : decode bytes pc = .ok (.bastore, 1)) (hp : pc + 1 = pc') (hn0 : n0 ≤ a) (hws : a ∈ ws ∨ h0.size ≤ a) (hsf : Safe Z EL vm0 h a)
    (k : ∀ T' h', Here p l e R s m args below meth c Z bytes maxL ret own nm h0 n0 ws EL kn T' h' vm0 cells slots → (∃ sl w, Wr h h' a sl w) → CHr Z EL vm0 h vm0 h' → Arv Z h' a ka .byte n (vs.set i (.int y)) d → Go p.tables e below P (T'.setTop (mkF m pc' Ls st))) : Go p.tables e below P (T.setTop (mkF m pc Ls (.int x :: .int j :: .ref a :: st))) := o_stB pc' X F hj.1 hj.2 hil hv hd hp hn0 hws hsf k
def WS_static (Z : State) (a0 : Array Value) (own : String) (index : Nat) (y : MethodName) (bytes' : ByteArray) (maxL' : Nat) (ret' : Option FieldType) (an : Nat) : Prop := ((Cond.methodLink own index y).before a0 Z = true) ∧ ((Cond.static y).before a0 Z = true) ∧ ((Cond.initialized y.cls).before a0 Z = true) ∧ ((Cond.code y bytes' maxL' ret').before a0 Z = true) ∧ (y.cls ≠ "java/lang/invoke/MethodHandle" ∧ y.cls ≠ "java/lang/invoke/VarHandle") ∧ (∀ sig, parseMethodDescriptor y.desc = some sig → an = sig.parameters.length)
theorem mS (W : Nat) {index : Nat} {y : MethodName} {bytes' : ByteArray} {maxL' : Nat} {ret' : Option FieldType} {rm : Room} {ws' sf' : List Addr} {argsL : List Value} {Po : Option Value → Heap → Vm → Prop} (X : Here p l e R s m args below meth c Z bytes maxL ret own nm h0 n0 ws EL kn T h vm0 cells slots) (hM : Old Z n0 h → Met l y bytes' maxL' ret' [] rm Z argsL.toArray h n0 ws' EL kn sf' Po) (hv : WS_static Z a0 own index y bytes' maxL' ret' argsL.length) (hsf : ∀ x ∈ sf', x < h.size ∧ Safe Z EL vm0 h x) (hd : decode bytes pc = .ok (.invokestatic index, 3)) (hp : pc + 3 = pc') (hsz : Ls.size = maxL) (hstk : st = argsL.reverse ++ rest) (hW : (rest.map fun v => v.category).sum ≤ W) (hr : rm.frames + 1 ≤ R.frames ∧ W + (maxL' + 11) + rm.locals ≤ R.locals ∧ cells + rm.cells ≤ R.cells ∧ slots + rm.slots ≤ R.slots) (hws : ∀ x ∈ ws', n0 ≤ x ∧ (x ∈ ws ∨ h0.size ≤ x))
    (k : ∀ v T' h' vm', Here p l e R s m args below meth c Z bytes maxL ret own nm h0 n0 ws EL kn T' h' vm' (cells + rm.cells) (slots + rm.slots) → Po v h' vm' → Keep h h' ws' → h.size ≤ h'.size → CHr Z EL vm0 h vm' h' → Go p.tables e below P (T'.setTop (mkF m pc' Ls (v.toList ++ rest)))) : Go p.tables e below P (T.setTop (mkF m pc Ls st)) := by
  obtain ⟨g0, g1, g2, g3, g4, g5⟩ := hv
  exact o_static pc' X g0 g1 g2 g3 g4 g5 (back_met (hM X.old) X g3 g2 hr.1 hr.2.1 hsf) hd hp hsz hstk hW hr.2.2.1 hr.2.2.2 qq_fr hws (fun v T' h' L vm' X' q K C => k v T' h' vm' X' q.2.2 K K.1 C)
def WS_special (Z : State) (a0 : Array Value) (own : String) (index : Nat) (y : MethodName) (bytes' : ByteArray) (maxL' : Nat) (an : Nat) : Prop := ((Cond.initialized y.cls).before a0 Z = true) ∧ (y.name = "<init>") ∧ ((Cond.methodLink own index y).before a0 Z = true) ∧ ((Cond.instanceMethod y).before a0 Z = true) ∧ ((Cond.code y bytes' maxL' none).before a0 Z = true) ∧ (y.cls ≠ "java/lang/invoke/MethodHandle" ∧ y.cls ≠ "java/lang/invoke/VarHandle") ∧ (∀ sig, parseMethodDescriptor y.desc = some sig → an = sig.parameters.length)
theorem mP (W : Nat) {b : Addr} {index : Nat} {y : MethodName} {bytes' : ByteArray} {maxL' : Nat} {rm : Room} {ws' sf' : List Addr} {argsL : List Value} {Po : Option Value → Heap → Vm → Prop} (X : Here p l e R s m args below meth c Z bytes maxL ret own nm h0 n0 ws EL kn T h vm0 cells slots) (hM : Old Z n0 h → Met l y bytes' maxL' none [] rm Z (.ref b :: argsL).toArray h n0 ws' EL kn sf' Po) (hv : WS_special Z a0 own index y bytes' maxL' argsL.length) (hsf : ∀ x ∈ sf', x < h.size ∧ Safe Z EL vm0 h x) (hd : decode bytes pc = .ok (.invokespecial index, 3)) (hp : pc + 3 = pc') (hsz : Ls.size = maxL) (hstk : st = argsL.reverse ++ .ref b :: rest) (hW : (rest.map fun v => v.category).sum ≤ W) (hr : rm.frames + 1 ≤ R.frames ∧ W + (maxL' + 11) + rm.locals ≤ R.locals ∧ cells + rm.cells ≤ R.cells ∧ slots + rm.slots ≤ R.slots) (hws : ∀ x ∈ ws', n0 ≤ x ∧ (x ∈ ws ∨ h0.size ≤ x))
    (k : ∀ v T' h' vm', Here p l e R s m args below meth c Z bytes maxL ret own nm h0 n0 ws EL kn T' h' vm' (cells + rm.cells) (slots + rm.slots) → Po v h' vm' → Keep h h' ws' → h.size ≤ h'.size → CHr Z EL vm0 h vm' h' → Go p.tables e below P (T'.setTop (mkF m pc' Ls (v.toList ++ rest)))) : Go p.tables e below P (T.setTop (mkF m pc Ls st)) := by
  obtain ⟨gz, g0, g1, g2, g3, g4, g5⟩ := hv
  exact o_special pc' X g0 g1 g2 g3 g4 g5 (back_met (hM X.old) X g3 gz hr.1 hr.2.1 hsf) hd hp hsz hstk hW hr.2.2.1 hr.2.2.2 qq_fr hws (fun v T' h' L vm' X' q K C => k v T' h' vm' X' q.2.2 K K.1 C)
def WS_virtual (Z : State) (a0 : Array Value) (own : String) (index : Nat) (C : String) (y z : MethodName) (bytes' : ByteArray) (maxL' : Nat) (ret' : Option FieldType) (an : Nat) : Prop := ((Cond.code z bytes' maxL' ret').before a0 Z = true) ∧ ((Cond.initialized z.cls).before a0 Z = true) ∧ ((Cond.methodLink own index y).before a0 Z = true) ∧ ((Cond.declares y).before a0 Z = true) ∧ ((Cond.selects C y z).before a0 Z = true) ∧ ((Cond.instanceMethod z).before a0 Z = true) ∧ (∀ s' : State, Z.Warmed39 s'.vm → NotFace s' y) ∧ (y.cls ≠ "java/lang/invoke/MethodHandle" ∧ y.cls ≠ "java/lang/invoke/VarHandle") ∧ (∀ sig, parseMethodDescriptor y.desc = some sig → an = sig.parameters.length)
theorem mV (W : Nat) {b : Addr} {index : Nat} {C : String} {y z : MethodName} {bytes' : ByteArray} {maxL' : Nat} {ret' : Option FieldType} {rm : Room} {ws' sf' : List Addr} {argsL : List Value} {Po : Option Value → Heap → Vm → Prop} (X : Here p l e R s m args below meth c Z bytes maxL ret own nm h0 n0 ws EL kn T h vm0 cells slots) (E : Exa Z h b C) (hM : Old Z n0 h → Met l z bytes' maxL' ret' [] rm Z (.ref b :: argsL).toArray h n0 ws' EL kn sf' Po) (hv : WS_virtual Z a0 own index C y z bytes' maxL' ret' argsL.length) (hsf : ∀ x ∈ sf', x < h.size ∧ Safe Z EL vm0 h x) (hd : decode bytes pc = .ok (.invokevirtual index, 3)) (hp : pc + 3 = pc') (hsz : Ls.size = maxL) (hstk : st = argsL.reverse ++ .ref b :: rest) (hW : (rest.map fun v => v.category).sum ≤ W) (hr : rm.frames + 1 ≤ R.frames ∧ W + (maxL' + 11) + rm.locals ≤ R.locals ∧ cells + rm.cells ≤ R.cells ∧ slots + rm.slots ≤ R.slots) (hws : ∀ x ∈ ws', n0 ≤ x ∧ (x ∈ ws ∨ h0.size ≤ x))
    (k : ∀ v T' h' vm', Here p l e R s m args below meth c Z bytes maxL ret own nm h0 n0 ws EL kn T' h' vm' (cells + rm.cells) (slots + rm.slots) → Po v h' vm' → Keep h h' ws' → h.size ≤ h'.size → CHr Z EL vm0 h vm' h' → Go p.tables e below P (T'.setTop (mkF m pc' Ls (v.toList ++ rest)))) : Go p.tables e below P (T.setTop (mkF m pc Ls st)) := by
  obtain ⟨gc, gz, g0, g1, g2, g3, g4, g5, g6⟩ := hv
  exact o_virtual pc' X E g0 g1 g2 g3 g4 g5 g6 (back_met (hM X.old) X gc gz hr.1 hr.2.1 hsf) hd hp hsz hstk hW hr.2.2.1 hr.2.2.2 qq_fr hws (fun v T' h' L vm' X' q K C => k v T' h' vm' X' q.2.2 K K.1 C)
theorem jn (pc2 : Nat) (S : Int32 → Prop) (Lf : Int32 → Array Slot) (h1 : ∀ a, S a → Go p.tables e below P (T.setTop (mkF m pc2 (Lf a) []))) (h2 : (∀ a, S a → Go p.tables e below P (T.setTop (mkF m pc2 (Lf a) []))) → Go p.tables e below P (T.setTop (mkF m pc Ls st))) : Go p.tables e below P (T.setTop (mkF m pc Ls st)) := h2 h1
theorem sk (st' : List Value) (q : st = st') (k : Go p.tables e below P (T.setTop (mkF m pc Ls st'))) : Go p.tables e below P (T.setTop (mkF m pc Ls st)) := q ▸ k
def BI (y : MethodName) (own nm : String) : Prop := plainFor y = true ∧ y.cls = own ∧ y.name = nm
theorem mi {y : MethodName} {wl : List Cond} {as' : Array Value} {Po : Option Value → Heap → Vm → Prop} (hB : BI y own nm) (hef : ∀ m, entryFrame m as' maxL = mkF m 0 Ls []) (hew : EW Z a0 EL)
    (body : ∀ {p e m below meth c s₁} s, Here p l e R s m as' below meth c Z bytes maxL ret own nm h0 n0 ws EL kn s₁ h0 s.vm 0 0 → (∀ x ∈ sf, Safe Z EL s.vm h0 x) → n0 ≤ h0.size → Go p.tables e below (PO s R h0 n0 ws Z EL Po) (s₁.setTop (mkF m 0 Ls []))) : Old Z n0 h0 → Met l y bytes maxL ret wl R Z as' h0 n0 ws EL kn sf Po := fun O =>
  met_intro hB.1 hB.2.1 hB.2.2 O hew fun p e s m below meth c s₁ X hs => Go.cast (hef m) (body s X hs X.n0le)
theorem sx {a : Addr} {C : String} (X : Here p l e R s m args below meth c Z bytes maxL ret own nm h0 n0 ws EL kn T h vm0 cells slots) (E : Exa Z h a C) (q : C ≠ "java/lang/String" ∧ C ≠ "[B") : Safe Z EL vm0 h a := Safe.exa X.al E q.1 q.2
theorem sS {a : Addr} {L : List Addr} (q1 : h.size > a) (q2 : Safe Z EL vm0 h a) (r : ∀ x ∈ L, x < h.size ∧ Safe Z EL vm0 h x) : ∀ x ∈ a :: L, x < h.size ∧ Safe Z EL vm0 h x := allS ⟨q1, q2⟩ r
theorem aI {a : Addr} {L : List Addr} (q : n0 ≤ a) (q2 : a ∈ ws) (r : ∀ x ∈ L, n0 ≤ x ∧ (x ∈ ws ∨ h0.size ≤ x)) : ∀ x ∈ a :: L, n0 ≤ x ∧ (x ∈ ws ∨ h0.size ≤ x) := allS ⟨q, Or.inl q2⟩ r
theorem aR {a : Addr} {L : List Addr} (q : n0 ≤ a ∧ h0.size ≤ a) (r : ∀ x ∈ L, n0 ≤ x ∧ (x ∈ ws ∨ h0.size ≤ x)) : ∀ x ∈ a :: L, n0 ≤ x ∧ (x ∈ ws ∨ h0.size ≤ x) := allS ⟨q.1, Or.inr q.2⟩ r
end Kit
end Jvm.OwnKit
namespace Jvm.OwnKit
open Sem ClassFile Op Lib Jvm.Stand Jvm.Free Jvm.LawKit Jvm.RoadKit
section Common
variable {Z : State} {h : Heap} {a0 : Array Value}
theorem own_ne {a b : Nat} (h : a < b ∨ b < a) : a ≠ b := fun q => by omega
theorem own_lt {a b : Nat} (h : b > a) : a < b := h
theorem own_c255 (x c : Int32) (e : (x &&& (255 : Int32)).toUInt32.toUInt16.toUInt32.toInt32 = c) : ¬ c < 0 ∧ ¬ (255 : Int32) < c := by
  subst e
  have t : ∀ k : Fin 256, ¬ ((Int32.ofNat k.val).toUInt32.toUInt16.toUInt32.toInt32) < 0 ∧ ¬ (255 : Int32) < ((Int32.ofNat k.val).toUInt32.toUInt16.toUInt32.toInt32) := by decide +kernel
  have h : (x &&& 255).toBitVec.toNat < 256 := by
    simp only [Int32.toBitVec_and, BitVec.toNat_and]
    exact Nat.lt_succ_of_le Nat.and_le_right
  have e : (x &&& 255) = Int32.ofNat (x &&& 255).toBitVec.toNat := by
    apply Int32.toBitVec_inj.mp
    show _ = BitVec.ofNat 32 _
    rw [BitVec.ofNat_toNat]; simp
  rw [e]
  exact t ⟨_, h⟩
theorem own_i32 {c : Int32} (rc : ¬ c < 0 ∧ ¬ (255 : Int32) < c) : ∃ k : Fin 256, c = Int32.ofNat k.val := by
  have h1 : 0 ≤ c.toInt := by have q := rc.1; rw [Int32.lt_iff_toInt_lt] at q; have e : (0 : Int32).toInt = 0 := rfl; omega
  have h2 : c.toInt ≤ 255 := by have q := rc.2; rw [Int32.lt_iff_toInt_lt] at q; have e : (255 : Int32).toInt = 255 := rfl; omega
  refine ⟨⟨c.toInt.toNat, by omega⟩, ?_⟩
  apply Int32.toInt_inj.mp
  show _ = (Int32.ofNat c.toInt.toNat).toInt
  rw [Int32.toInt_ofNat_of_lt (by omega)]
  omega
theorem own_bne {c k : Int32} (hk : k = 46 ∨ k = 47) (rc : ¬ c < 0 ∧ ¬ (255 : Int32) < c) (h : ¬ c = k) : ¬ c.toInt8.toInt32 = k := by
  obtain ⟨j, rfl⟩ := own_i32 rc
  rcases hk with rfl | rfl
  · exact (by decide +kernel : ∀ k : Fin 256, ¬ Int32.ofNat k.val = 46 → ¬ (Int32.ofNat k.val).toInt8.toInt32 = 46) j h
  · exact (by decide +kernel : ∀ k : Fin 256, ¬ Int32.ofNat k.val = 47 → ¬ (Int32.ofNat k.val).toInt8.toInt32 = 47) j h
theorem own_ch255 {c : Int32} (rc : ¬ c < 0 ∧ ¬ (255 : Int32) < c) : ((c.toInt8.toInt32) &&& (255 : Int32)).toUInt32.toUInt16.toUInt32.toInt32 = c := by
  obtain ⟨j, rfl⟩ := own_i32 rc
  exact (by decide +kernel : ∀ k : Fin 256, (((Int32.ofNat k.val).toInt8.toInt32) &&& (255 : Int32)).toUInt32.toUInt16.toUInt32.toInt32 = Int32.ofNat k.val) j
theorem own_mod5 (n : Int32) : (n &&& (2147483647 : Int32)) % (5 : Int32) = 0 ∨ (n &&& (2147483647 : Int32)) % (5 : Int32) = 1 ∨ (n &&& (2147483647 : Int32)) % (5 : Int32) = 2 ∨ (n &&& (2147483647 : Int32)) % (5 : Int32) = 3 ∨ (n &&& (2147483647 : Int32)) % (5 : Int32) = 4 := by
  have h : (n &&& (2147483647 : Int32)).toBitVec.toNat < 2147483648 := by
    simp only [Int32.toBitVec_and, BitVec.toNat_and]
    exact Nat.lt_succ_of_le Nat.and_le_right
  have h0 : 0 ≤ (n &&& (2147483647 : Int32)).toInt := by
    show 0 ≤ (n &&& (2147483647 : Int32)).toBitVec.toInt
    rw [BitVec.toInt_eq_toNat_of_lt (by omega)]; omega
  have e : ((n &&& (2147483647 : Int32)) % (5 : Int32)).toInt = (n &&& (2147483647 : Int32)).toInt.tmod 5 := by
    rw [Int32.toInt_mod]; rfl
  rw [Int.tmod_eq_emod_of_nonneg h0] at e
  have f : ∀ z : Int32, z.toInt = ((n &&& (2147483647 : Int32)) % (5 : Int32)).toInt → (n &&& (2147483647 : Int32)) % (5 : Int32) = z := fun z q => Int32.toInt_inj.mp q.symm
  have e0 : (0 : Int32).toInt = 0 := rfl
  have e1 : (1 : Int32).toInt = 1 := rfl
  have e2 : (2 : Int32).toInt = 2 := rfl
  have e3 : (3 : Int32).toInt = 3 := rfl
  have e4 : (4 : Int32).toInt = 4 := rfl
  have b : (n &&& (2147483647 : Int32)).toInt % 5 = 0 ∨ (n &&& (2147483647 : Int32)).toInt % 5 = 1 ∨ (n &&& (2147483647 : Int32)).toInt % 5 = 2 ∨ (n &&& (2147483647 : Int32)).toInt % 5 = 3 ∨ (n &&& (2147483647 : Int32)).toInt % 5 = 4 := by omega
  rcases b with q | q | q | q | q
  · exact Or.inl (f _ (by omega))
  · exact Or.inr (Or.inl (f _ (by omega)))
  · exact Or.inr (Or.inr (Or.inl (f _ (by omega))))
  · exact Or.inr (Or.inr (Or.inr (Or.inl (f _ (by omega)))))
  · exact Or.inr (Or.inr (Or.inr (Or.inr (f _ (by omega)))))
theorem own_idem {y c : Int32} (e : y.toUInt32.toUInt16.toUInt32.toInt32 = c) : c.toUInt32.toUInt16.toUInt32.toInt32 = c := by
  subst e
  have : ((y.toUInt32.toUInt16.toUInt32).toInt32).toUInt32 = y.toUInt32.toUInt16.toUInt32 := by simp
  rw [this]
  have t : (y.toUInt32.toUInt16.toUInt32).toUInt16 = y.toUInt32.toUInt16 := by
    apply UInt16.toNat_inj.mp
    have := y.toUInt32.toUInt16.toNat_lt
    rw [UInt32.toNat_toUInt16, UInt16.toNat_toUInt32]
    exact Nat.mod_eq_of_lt this
  rw [t]
theorem own_nc2 {y c : Int32} (e : y.toUInt32.toUInt16.toUInt32.toInt32 = c) : nar .char c = c := own_idem e
theorem own_narC {c : Int32} (r : ¬ c < 0 ∧ ¬ (255 : Int32) < c) : nar .char c = c := by
  have t : ∀ k : Fin 256, nar .char (Int32.ofNat k.val) = Int32.ofNat k.val := by decide +kernel
  have h1 : 0 ≤ c.toInt := by have q := r.1; rw [Int32.lt_iff_toInt_lt] at q; have e : (0 : Int32).toInt = 0 := rfl; omega
  have h2 : c.toInt ≤ 255 := by have q := r.2; rw [Int32.lt_iff_toInt_lt] at q; have e : (255 : Int32).toInt = 255 := rfl; omega
  have e : c = Int32.ofNat c.toInt.toNat := by
    apply Int32.toInt_inj.mp
    rw [Int32.toInt_ofNat_of_lt (by omega)]
    omega
  rw [e]
  exact t ⟨c.toInt.toNat, by omega⟩
theorem own_narB (x : Int32) : nar .byte (x.toInt8.toInt32) = x.toInt8.toInt32 := by simp [nar]
def own_bs (cs : List Int32) : List Value := (cs.map (fun c => c.toInt8.toInt32)).map Value.int
end Common
end Jvm.OwnKit
namespace Jvm.OwnKit
open Sem ClassFile Op Lib Jvm.Stand Jvm.Free Jvm.LawKit Jvm.RoadKit
end Jvm.OwnKit
namespace Jvm.RoadKit
open Sem ClassFile Op Lib Jvm.Stand Jvm.Free Jvm.LawKit Jvm.OwnKit
section Squeeze
variable {Z : State} {h h' : Heap} {a b c d : Addr} {C n dd : String} {v w : Value} {sl : Nat} {k : ClassId} {ty : FieldType} {z : Int32} {vs : List Value} {dv : Value}
theorem Exa.l (F : Exa Z h a C) : @LT.lt Nat _ a h.size := F.lt
theorem Fld.l (F : Fld Z h a C n dd w) : @LT.lt Nat _ a h.size := F.lt
theorem Arv.l (F : Arv Z h a k ty z vs dv) : @LT.lt Nat _ a h.size := F.lt
theorem Fld.oth (F : Fld Z h b C n dd w) (W : Wr h h' a sl v) (q : @LT.lt Nat _ b a ∨ @LT.lt Nat _ a b) : Fld Z h' b C n dd w := Fld.other W F (Or.inl (own_ne q))
theorem Fld.k0 (F : Fld Z h b C n dd w) (K : Keep h h' []) : Fld Z h' b C n dd w := F.keep K nin0
theorem Fld.k1 (F : Fld Z h b C n dd w) (K : Keep h h' [a]) (q : @LT.lt Nat _ b a ∨ @LT.lt Nat _ a b) : Fld Z h' b C n dd w := F.keep K (ninS (own_ne q) nin0)
theorem Fld.k2 (F : Fld Z h b C n dd w) (K : Keep h h' [a, c]) (q : (@LT.lt Nat _ b a ∨ @LT.lt Nat _ a b) ∧ (@LT.lt Nat _ b c ∨ @LT.lt Nat _ c b)) : Fld Z h' b C n dd w := F.keep K (ninS (own_ne q.1) (ninS (own_ne q.2) nin0))
theorem Arv.oth (F : Arv Z h b k ty z vs dv) (W : Wr h h' a sl v) (q : @LT.lt Nat _ b a ∨ @LT.lt Nat _ a b) : Arv Z h' b k ty z vs dv := F.other W (own_ne q)
theorem Arv.k0 (F : Arv Z h b k ty z vs dv) (K : Keep h h' []) : Arv Z h' b k ty z vs dv := F.keep K nin0
theorem Arv.k1 (F : Arv Z h b k ty z vs dv) (K : Keep h h' [a]) (q : @LT.lt Nat _ b a ∨ @LT.lt Nat _ a b) : Arv Z h' b k ty z vs dv := F.keep K (ninS (own_ne q) nin0)
theorem Arv.k2 (F : Arv Z h b k ty z vs dv) (K : Keep h h' [a, c]) (q : (@LT.lt Nat _ b a ∨ @LT.lt Nat _ a b) ∧ (@LT.lt Nat _ b c ∨ @LT.lt Nat _ c b)) : Arv Z h' b k ty z vs dv := F.keep K (ninS (own_ne q.1) (ninS (own_ne q.2) nin0))
theorem Arv.as (F : Arv Z h b k ty z vs dv) (vs' : List Value) (q : vs = vs') : Arv Z h b k ty z vs' dv := q ▸ F
end Squeeze
end Jvm.RoadKit
namespace Jvm.OwnKit
open Sem ClassFile Op Lib Jvm.Stand Jvm.Free Jvm.LawKit Jvm.RoadKit
abbrev NE (a b : Addr) : Prop := Nat.succ a ≠ Nat.succ b
abbrev DC (c : ByteArray) (pc : Nat) (i : Instr) (n : Nat) : Prop := decode c pc = .ok (i, n)
abbrev i0 : Value := .int 0
abbrev uu : Slot := .unset
abbrev rr (a : Addr) : Slot := .val (.ref a)
abbrev ii (n : Int32) : Slot := .val (.int n)
theorem lr {n : Nat} : n ≤ n := Nat.le_refl n
theorem lb {a b : Nat} (h : Nat.ble (a + 1) b = true) : a < b := Nat.le_of_ble_eq_true h
theorem lenN {d : String} {n : Nat} {g : MethodDescriptor} (h : parseMethodDescriptor d = some g) (q : n = g.parameters.length) : ∀ sig, parseMethodDescriptor d = some sig → n = sig.parameters.length := fun sig e => by cases h.symm.trans e; exact q
theorem wm {α : Type _} {l : List α} {i : Nat} {a : α} (h : l[i]? = some a) : a ∈ l := List.mem_of_getElem? h
end Jvm.OwnKit

namespace Jvm.Pilot.@@N@@
open Jvm Jvm.ClassFile Sem Op Lib Jvm.Free Jvm.Stand Jvm.LawKit Jvm.RoadKit Bundle Jvm.Pilot.@@N@@.Jvm.D Jvm.OwnKit

theorem hws_str {a0 : Array Value} {Z : State} (hw : ∀ d ∈ tables_1, d.before a0 Z = true) : ∀ d ∈ Bundle.stringAtoms, d.before a0 Z = true := fun d hd => hw d ((by decide +kernel : ∀ d ∈ Bundle.stringAtoms, d ∈ tables_1) d hd)
theorem w_7 {a0 : Array Value} {Z : State} (hw : ∀ d ∈ tables_1, d.before a0 Z = true) : (Jvm.Cond.instantiable "java/lang/String" (4 : Nat)).before a0 Z = true := hw _ (List.mem_of_getElem? (i := 7) rfl)
theorem w_24 {a0 : Array Value} {Z : State} (hw : ∀ d ∈ tables_1, d.before a0 Z = true) : (Jvm.Cond.arrayClass Jvm.ClassFile.FieldType.byte).before a0 Z = true := hw _ (List.mem_of_getElem? (i := 24) rfl)
theorem w_96 {a0 : Array Value} {Z : State} (hw : ∀ d ∈ tables_1, d.before a0 Z = true) : (Jvm.Cond.stringLink "java/lang/StringLatin1" (151 : Nat) "").before a0 Z = true := hw _ (List.mem_of_getElem? (i := 96) rfl)
section Walks
set_option maxRecDepth 65536
set_option maxHeartbeats 40000000
abbrev EL0 : List (String × Nat) := [("java/lang/StringLatin1", 151)]
abbrev ex0 (Z : State) (h : Heap) (a : Addr) : Prop := Exa Z h a "[B"
abbrev ex1 (Z : State) (h : Heap) (a : Addr) : Prop := Exa Z h a "java/lang/String"
abbrev fd0 (Z : State) (h : Heap) (a : Addr) (v : Value) : Prop := Fld Z h a "java/lang/String" "coder" "B" v
abbrev fd1 (Z : State) (h : Heap) (a : Addr) (v : Value) : Prop := Fld Z h a "java/lang/String" "value" "[B" v
abbrev av0 (Z : State) (h : Heap) (a : Addr) (k : ClassId) (z : Int32) (vs : List Value) : Prop := Arv Z h a k .char z vs (.int (0 : Int32))
abbrev av1 (Z : State) (h : Heap) (a : Addr) (k : ClassId) (z : Int32) (vs : List Value) : Prop := Arv Z h a k .byte z vs (.int (0 : Int32))
abbrev MM (y : MethodName) (b : ByteArray) (m : Nat) (t : Option FieldType) (l : Launch) (Z : State) (f c s o : Nat) (as' : Array Value) (h0 : Heap) (n0 : Nat) (ws sf : List Addr) (Po : Option Value → Heap → Vm → Prop) : Prop := Old Z n0 h0 → Met l y b m t [] ⟨f, c, s, o⟩ Z as' h0 n0 ws EL0 false sf Po
abbrev GL (l : Launch) (Z : State) (a0 : Array Value) (zc : Int32) (fmt : Value) : Prop := (∀ d ∈ tables_1, d.before a0 Z = true) ∧ (Sta Z Z.heap "java/lang/String" "COMPACT_STRINGS" "Z" (.int zc)) ∧ (¬ (zc = (0 : Int32))) ∧ (EW Z a0 EL0) ∧ (Sta Z Z.heap "jdk/internal/util/Preconditions" "SIOOBE_FORMATTER" "Ljava/util/function/BiFunction;" fmt) ∧ (fmt.isRef = true)
variable {l : Launch} {Z : State} {a0 : Array Value} {zc : Int32} {fmt : Value}
section Words
variable (G : GL l Z a0 zc fmt)
def sg1 := G.2.1
def hzc := G.2.2.1
def hEW := G.2.2.2.1
def sg0 := G.2.2.2.2.1
def hfmt := G.2.2.2.2.2
def w0 := G.1 _ (wm (i := 0) rfl)
def w1 := G.1 _ (wm (i := 1) rfl)
def w2 := G.1 _ (wm (i := 2) rfl)
def w3 := G.1 _ (wm (i := 3) rfl)
def w4 := G.1 _ (wm (i := 4) rfl)
def w5 := G.1 _ (wm (i := 5) rfl)
def w6 := G.1 _ (wm (i := 6) rfl)
def w7 := G.1 _ (wm (i := 7) rfl)
def w8 := G.1 _ (wm (i := 8) rfl)
def w9 := G.1 _ (wm (i := 9) rfl)
def w10 := G.1 _ (wm (i := 10) rfl)
def w11 := G.1 _ (wm (i := 11) rfl)
def w12 := G.1 _ (wm (i := 12) rfl)
def w13 := G.1 _ (wm (i := 13) rfl)
def w15 := G.1 _ (wm (i := 15) rfl)
def w16 := G.1 _ (wm (i := 16) rfl)
def w17 := G.1 _ (wm (i := 17) rfl)
def w18 := G.1 _ (wm (i := 18) rfl)
def w19 := G.1 _ (wm (i := 19) rfl)
def w20 := G.1 _ (wm (i := 20) rfl)
def w21 := G.1 _ (wm (i := 21) rfl)
def w22 := G.1 _ (wm (i := 22) rfl)
def w23 := G.1 _ (wm (i := 23) rfl)
def w24 := G.1 _ (wm (i := 24) rfl)
def w25 := G.1 _ (wm (i := 25) rfl)
def w26 := G.1 _ (wm (i := 26) rfl)
def w27 := G.1 _ (wm (i := 27) rfl)
def w28 := G.1 _ (wm (i := 28) rfl)
def w29 := G.1 _ (wm (i := 29) rfl)
def w30 := G.1 _ (wm (i := 30) rfl)
def w31 := G.1 _ (wm (i := 31) rfl)
def w32 := G.1 _ (wm (i := 32) rfl)
def w33 := G.1 _ (wm (i := 33) rfl)
def w34 := G.1 _ (wm (i := 34) rfl)
def w35 := G.1 _ (wm (i := 35) rfl)
def w36 := G.1 _ (wm (i := 36) rfl)
def w37 := G.1 _ (wm (i := 37) rfl)
def w38 := G.1 _ (wm (i := 38) rfl)
def w39 := G.1 _ (wm (i := 39) rfl)
def w40 := G.1 _ (wm (i := 40) rfl)
def w41 := G.1 _ (wm (i := 41) rfl)
def w42 := G.1 _ (wm (i := 42) rfl)
def w43 := G.1 _ (wm (i := 43) rfl)
def w44 := G.1 _ (wm (i := 44) rfl)
def w45 := G.1 _ (wm (i := 45) rfl)
def w46 := G.1 _ (wm (i := 46) rfl)
def w47 := G.1 _ (wm (i := 47) rfl)
def w48 := G.1 _ (wm (i := 48) rfl)
def w49 := G.1 _ (wm (i := 49) rfl)
def w50 := G.1 _ (wm (i := 50) rfl)
def w51 := G.1 _ (wm (i := 51) rfl)
def w52 := G.1 _ (wm (i := 52) rfl)
def w53 := G.1 _ (wm (i := 53) rfl)
def w54 := G.1 _ (wm (i := 54) rfl)
def w55 := G.1 _ (wm (i := 55) rfl)
def w56 := G.1 _ (wm (i := 56) rfl)
def w57 := G.1 _ (wm (i := 57) rfl)
def w58 := G.1 _ (wm (i := 58) rfl)
def w59 := G.1 _ (wm (i := 59) rfl)
def w60 := G.1 _ (wm (i := 60) rfl)
def w61 := G.1 _ (wm (i := 61) rfl)
def w62 := G.1 _ (wm (i := 62) rfl)
def w63 := G.1 _ (wm (i := 63) rfl)
def w64 := G.1 _ (wm (i := 64) rfl)
def w65 := G.1 _ (wm (i := 65) rfl)
def w66 := G.1 _ (wm (i := 66) rfl)
def w67 := G.1 _ (wm (i := 67) rfl)
def w68 := G.1 _ (wm (i := 68) rfl)
def w69 := G.1 _ (wm (i := 69) rfl)
def w70 := G.1 _ (wm (i := 70) rfl)
def w71 := G.1 _ (wm (i := 71) rfl)
def w72 := G.1 _ (wm (i := 72) rfl)
def w73 := G.1 _ (wm (i := 73) rfl)
def w74 := G.1 _ (wm (i := 74) rfl)
def w75 := G.1 _ (wm (i := 75) rfl)
def w76 := G.1 _ (wm (i := 76) rfl)
def w77 := G.1 _ (wm (i := 77) rfl)
def w78 := G.1 _ (wm (i := 78) rfl)
def w79 := G.1 _ (wm (i := 79) rfl)
def w80 := G.1 _ (wm (i := 80) rfl)
def w81 := G.1 _ (wm (i := 81) rfl)
def w82 := G.1 _ (wm (i := 82) rfl)
def w83 := G.1 _ (wm (i := 83) rfl)
def w84 := G.1 _ (wm (i := 84) rfl)
def w85 := G.1 _ (wm (i := 85) rfl)
def w86 := G.1 _ (wm (i := 86) rfl)
def w87 := G.1 _ (wm (i := 87) rfl)
def w88 := G.1 _ (wm (i := 88) rfl)
def w89 := G.1 _ (wm (i := 89) rfl)
def w90 := G.1 _ (wm (i := 90) rfl)
def w91 := G.1 _ (wm (i := 91) rfl)
def w92 := G.1 _ (wm (i := 92) rfl)
def w93 := G.1 _ (wm (i := 93) rfl)
def w94 := G.1 _ (wm (i := 94) rfl)
def w95 := G.1 _ (wm (i := 95) rfl)
def w96 := G.1 _ (wm (i := 96) rfl)
def w99 := G.1 _ (wm (i := 99) rfl)
def w100 := G.1 _ (wm (i := 100) rfl)
def w101 := G.1 _ (wm (i := 101) rfl)
def w102 := G.1 _ (wm (i := 102) rfl)
def w103 := G.1 _ (wm (i := 103) rfl)
def w104 := G.1 _ (wm (i := 104) rfl)
def w105 := G.1 _ (wm (i := 105) rfl)
def w106 := G.1 _ (wm (i := 106) rfl)
def w107 := G.1 _ (wm (i := 107) rfl)
def w108 := G.1 _ (wm (i := 108) rfl)
def w109 := G.1 _ (wm (i := 109) rfl)
def w110 := G.1 _ (wm (i := 110) rfl)
def w111 := G.1 _ (wm (i := 111) rfl)
def w112 := G.1 _ (wm (i := 112) rfl)
def w113 := G.1 _ (wm (i := 113) rfl)
def w114 := G.1 _ (wm (i := 114) rfl)
def w115 := G.1 _ (wm (i := 115) rfl)
def w116 := G.1 _ (wm (i := 116) rfl)
def w117 := G.1 _ (wm (i := 117) rfl)
def w118 := G.1 _ (wm (i := 118) rfl)
def w119 := G.1 _ (wm (i := 119) rfl)
def w120 := G.1 _ (wm (i := 120) rfl)
def w121 := G.1 _ (wm (i := 121) rfl)
def w122 := G.1 _ (wm (i := 122) rfl)
def w123 := G.1 _ (wm (i := 123) rfl)
def w124 := G.1 _ (wm (i := 124) rfl)
def w125 := G.1 _ (wm (i := 125) rfl)
def w126 := G.1 _ (wm (i := 126) rfl)
def w127 := G.1 _ (wm (i := 127) rfl)
def w128 := G.1 _ (wm (i := 128) rfl)
def w129 := G.1 _ (wm (i := 129) rfl)
def w130 := G.1 _ (wm (i := 130) rfl)
def w131 := G.1 _ (wm (i := 131) rfl)
def w132 := G.1 _ (wm (i := 132) rfl)
theorem ef0 {x0 : Int32} (m : MethodId) : entryFrame m #[(.int x0)] 2 = mkF m 0 #[.val (.int x0), .unset] [] := by simp [entryFrame, mkF, argsToLocals, Value.category, maxLocals]
theorem pn_com_example_web_whiteboard_webwhiteboard_context_ServletPatternExtensionPinLaw : plainName "com/example/web_whiteboard/webwhiteboard/context/ServletPatternExtensionPinLaw" = true := by first | decide +kernel | (simp [plainName, overriddenIn]; done)
abbrev y0 : MethodName := ⟨"com/example/web_whiteboard/webwhiteboard/context/ServletPatternExtensionPinLaw", "draw", "(I)C"⟩
theorem B0 : BI y0 "com/example/web_whiteboard/webwhiteboard/context/ServletPatternExtensionPinLaw" "draw" := ⟨(plainFor_of_name pn_com_example_web_whiteboard_webwhiteboard_context_ServletPatternExtensionPinLaw), rfl, rfl⟩
abbrev c0 := method_2_code
theorem d0_0 : DC c0 0 (.iload_n 0) 1 := by decide +kernel
theorem d0_1 : DC c0 1 (.iconst 3) 1 := by decide +kernel
theorem d0_2 : DC c0 2 .iand 1 := by decide +kernel
theorem d0_3 : DC c0 3 (.istore_n 1) 1 := by decide +kernel
theorem d0_4 : DC c0 4 (.iload_n 1) 1 := by decide +kernel
theorem d0_5 : DC c0 5 (.ifCond .ne 6) 3 := by decide +kernel
theorem d0_8 : DC c0 8 (.bipush 47) 2 := by decide +kernel
theorem d0_10 : DC c0 10 .ireturn 1 := by decide +kernel
theorem d0_11 : DC c0 11 (.iload_n 1) 1 := by decide +kernel
theorem d0_12 : DC c0 12 (.iconst 1) 1 := by decide +kernel
theorem d0_13 : DC c0 13 (.if_icmp .ne 6) 3 := by decide +kernel
theorem d0_16 : DC c0 16 (.bipush 46) 2 := by decide +kernel
theorem d0_18 : DC c0 18 .ireturn 1 := by decide +kernel
theorem d0_19 : DC c0 19 (.iload_n 0) 1 := by decide +kernel
theorem d0_20 : DC c0 20 (.iconst 2) 1 := by decide +kernel
theorem d0_21 : DC c0 21 .iushr 1 := by decide +kernel
theorem d0_22 : DC c0 22 (.sipush 255) 3 := by decide +kernel
theorem d0_25 : DC c0 25 .iand 1 := by decide +kernel
theorem d0_26 : DC c0 26 .i2c 1 := by decide +kernel
theorem d0_27 : DC c0 27 .ireturn 1 := by decide +kernel
abbrev M0 := MM y0 c0 2 (some .char)
theorem ef1 {x0 : Int32} {x1 : Int32} {x2 : Int32} {x3 : Int32} {x4 : Int32} (m : MethodId) : entryFrame m #[(.int x0), (.int x1), (.int x2), (.int x3), (.int x4)] maxLocals = mkF m 0 #[.val (.int x0), .val (.int x1), .val (.int x2), .val (.int x3), .val (.int x4), .unset, .unset, .unset, .unset, .unset, .unset, .unset, .unset] [] := by simp [entryFrame, mkF, argsToLocals, Value.category, maxLocals]
theorem B1 : BI x "com/example/web_whiteboard/webwhiteboard/context/ServletPatternExtensionPinLaw" "law" := ⟨(plainFor_of_name pn_com_example_web_whiteboard_webwhiteboard_context_ServletPatternExtensionPinLaw), rfl, rfl⟩
theorem nc0 : "[C" ≠ "java/lang/String" ∧ "[C" ≠ "[B" := by decide +kernel
theorem pd_0 : parseMethodDescriptor "(I)C" = some ⟨[.int], (some .char)⟩ := by decide +kernel
def u0 : WS_static Z a0 "com/example/web_whiteboard/webwhiteboard/context/ServletPatternExtensionPinLaw" 8 y0 c0 2 (some .char) 1 := ⟨(w2 G), (w3 G), (w4 G), (w5 G), by decide +kernel, lenN pd_0 rfl⟩
theorem fd_0 : parseFieldDescriptor "B" = some .byte := by decide +kernel
theorem fd_1 : parseFieldDescriptor "[B" = some (.array .byte) := by decide +kernel
theorem ef2 {x0 : Addr} {x1 : Addr} (m : MethodId) : entryFrame m #[(.ref x0), (.ref x1)] 2 = mkF m 0 #[.val (.ref x0), .val (.ref x1)] [] := by simp [entryFrame, mkF, argsToLocals, Value.category, maxLocals]
theorem pn_java_lang_String : plainName "java/lang/String" = true := by first | decide +kernel | (simp [plainName, overriddenIn]; done)
abbrev y1 : MethodName := ⟨"java/lang/String", "<init>", "([C)V"⟩
theorem B2 : BI y1 "java/lang/String" "<init>" := ⟨(plainFor_of_name pn_java_lang_String), rfl, rfl⟩
abbrev c2 := jdk_42_method_3_code
theorem d2_0 : DC c2 0 (.aload_n 0) 1 := by decide +kernel
theorem d2_1 : DC c2 1 (.aload_n 1) 1 := by decide +kernel
theorem d2_2 : DC c2 2 (.iconst 0) 1 := by decide +kernel
theorem d2_3 : DC c2 3 (.aload_n 1) 1 := by decide +kernel
theorem d2_4 : DC c2 4 .arraylength 1 := by decide +kernel
theorem d2_5 : DC c2 5 .aconst_null 1 := by decide +kernel
theorem d2_6 : DC c2 6 (.invokespecial 27) 3 := by decide +kernel
theorem ef3 {x0 : Addr} {x1 : Addr} {x2 : Int32} {x3 : Int32} (m : MethodId) : entryFrame m #[(.ref x0), (.ref x1), (.int x2), (.int x3), .null] 6 = mkF m 0 #[.val (.ref x0), .val (.ref x1), .val (.int x2), .val (.int x3), .val .null, .unset] [] := by simp [entryFrame, mkF, argsToLocals, Value.category, maxLocals]
abbrev y2 : MethodName := ⟨"java/lang/String", "<init>", "([CIILjava/lang/Void;)V"⟩
theorem B3 : BI y2 "java/lang/String" "<init>" := ⟨(plainFor_of_name pn_java_lang_String), rfl, rfl⟩
abbrev c3 := jdk_42_method_149_code
theorem d3_0 : DC c3 0 (.aload_n 0) 1 := by decide +kernel
theorem d3_1 : DC c3 1 (.invokespecial 1) 3 := by decide +kernel
theorem d3_4 : DC c3 4 (.iload_n 3) 1 := by decide +kernel
theorem d3_5 : DC c3 5 (.ifCond .ne 22) 3 := by decide +kernel
theorem d3_27 : DC c3 27 (.getstatic 38) 3 := by decide +kernel
theorem d3_30 : DC c3 30 (.ifCond .eq 28) 3 := by decide +kernel
theorem d3_33 : DC c3 33 (.aload_n 1) 1 := by decide +kernel
theorem d3_34 : DC c3 34 (.iload_n 2) 1 := by decide +kernel
theorem d3_35 : DC c3 35 (.iload_n 3) 1 := by decide +kernel
theorem d3_36 : DC c3 36 (.invokestatic 177) 3 := by decide +kernel
theorem ef4 {x0 : Addr} {x1 : Int32} {x2 : Int32} (m : MethodId) : entryFrame m #[(.ref x0), (.int x1), (.int x2)] 6 = mkF m 0 #[.val (.ref x0), .val (.int x1), .val (.int x2), .unset, .unset, .unset] [] := by simp [entryFrame, mkF, argsToLocals, Value.category, maxLocals]
theorem pn_java_lang_StringUTF16 : plainName "java/lang/StringUTF16" = true := by first | decide +kernel | (simp [plainName, overriddenIn]; done)
abbrev y3 : MethodName := ⟨"java/lang/StringUTF16", "compress", "([CII)[B"⟩
theorem B4 : BI y3 "java/lang/StringUTF16" "compress" := ⟨(plainFor_of_name pn_java_lang_StringUTF16), rfl, rfl⟩
abbrev c4 := jdk_52_method_16_code
theorem d4_0 : DC c4 0 (.iload_n 2) 1 := by decide +kernel
theorem d4_1 : DC c4 1 (.newarray .byte) 2 := by decide +kernel
theorem d4_3 : DC c4 3 (.astore_n 3) 1 := by decide +kernel
theorem d4_4 : DC c4 4 (.aload_n 0) 1 := by decide +kernel
theorem d4_5 : DC c4 5 (.iload_n 1) 1 := by decide +kernel
theorem d4_6 : DC c4 6 (.aload_n 3) 1 := by decide +kernel
theorem d4_7 : DC c4 7 (.iconst 0) 1 := by decide +kernel
theorem d4_8 : DC c4 8 (.iload_n 2) 1 := by decide +kernel
theorem d4_9 : DC c4 9 (.invokestatic 115) 3 := by decide +kernel
theorem ef5 {x0 : Addr} {x1 : Int32} {x2 : Addr} {x3 : Int32} {x4 : Int32} (m : MethodId) : entryFrame m #[(.ref x0), (.int x1), (.ref x2), (.int x3), (.int x4)] 7 = mkF m 0 #[.val (.ref x0), .val (.int x1), .val (.ref x2), .val (.int x3), .val (.int x4), .unset, .unset] [] := by simp [entryFrame, mkF, argsToLocals, Value.category, maxLocals]
abbrev y4 : MethodName := ⟨"java/lang/StringUTF16", "compress", "([CI[BII)I"⟩
theorem B5 : BI y4 "java/lang/StringUTF16" "compress" := ⟨(plainFor_of_name pn_java_lang_StringUTF16), rfl, rfl⟩
abbrev c5 := jdk_52_method_21_code
theorem d5_0 : DC c5 0 (.iconst 0) 1 := by decide +kernel
theorem d5_1 : DC c5 1 (.istore 5) 2 := by decide +kernel
theorem d5_3 : DC c5 3 (.iload 5) 2 := by decide +kernel
theorem d5_5 : DC c5 5 (.iload 4) 2 := by decide +kernel
theorem d5_7 : DC c5 7 (.if_icmp .ge 37) 3 := by decide +kernel
theorem d5_10 : DC c5 10 (.aload_n 0) 1 := by decide +kernel
theorem d5_11 : DC c5 11 (.iload_n 1) 1 := by decide +kernel
theorem d5_12 : DC c5 12 .caload 1 := by decide +kernel
theorem d5_13 : DC c5 13 (.istore 6) 2 := by decide +kernel
theorem d5_15 : DC c5 15 (.iload 6) 2 := by decide +kernel
theorem d5_17 : DC c5 17 (.sipush 255) 3 := by decide +kernel
theorem d5_20 : DC c5 20 (.if_icmp .le 6) 3 := by decide +kernel
theorem d5_26 : DC c5 26 (.aload_n 2) 1 := by decide +kernel
theorem d5_27 : DC c5 27 (.iload_n 3) 1 := by decide +kernel
theorem d5_28 : DC c5 28 (.iload 6) 2 := by decide +kernel
theorem d5_30 : DC c5 30 .i2b 1 := by decide +kernel
theorem d5_31 : DC c5 31 .bastore 1 := by decide +kernel
theorem d5_32 : DC c5 32 (.iinc 1 1) 3 := by decide +kernel
theorem d5_35 : DC c5 35 (.iinc 3 1) 3 := by decide +kernel
theorem d5_38 : DC c5 38 (.iinc 5 1) 3 := by decide +kernel
theorem d5_41 : DC c5 41 (.goto (-38)) 3 := by decide +kernel
theorem d5_44 : DC c5 44 (.iload 4) 2 := by decide +kernel
theorem d5_46 : DC c5 46 .ireturn 1 := by decide +kernel
abbrev M5 := MM y4 c5 7 (some .int)
theorem pd_1 : parseMethodDescriptor "([CI[BII)I" = some ⟨[(.array .char), .int, (.array .byte), .int, .int], (some .int)⟩ := by decide +kernel
def u1 : WS_static Z a0 "java/lang/StringUTF16" 115 y4 c5 7 (some .int) 5 := ⟨(w25 G), (w26 G), (w22 G), (w27 G), by decide +kernel, lenN pd_1 rfl⟩
theorem d4_12 : DC c4 12 (.istore 4) 2 := by decide +kernel
theorem d4_14 : DC c4 14 (.iload 4) 2 := by decide +kernel
theorem d4_16 : DC c4 16 (.iload_n 2) 1 := by decide +kernel
theorem d4_17 : DC c4 17 (.if_icmp .eq 40) 3 := by decide +kernel
theorem d4_57 : DC c4 57 (.aload_n 3) 1 := by decide +kernel
theorem d4_58 : DC c4 58 .areturn 1 := by decide +kernel
abbrev M4 := MM y3 c4 6 (some (.array .byte))
theorem pd_2 : parseMethodDescriptor "([CII)[B" = some ⟨[(.array .char), .int, .int], (some (.array .byte))⟩ := by decide +kernel
def u2 : WS_static Z a0 "java/lang/String" 177 y3 c4 6 (some (.array .byte)) 3 := ⟨(w20 G), (w21 G), (w22 G), (w23 G), by decide +kernel, lenN pd_2 rfl⟩
theorem d3_39 : DC c3 39 (.astore 5) 2 := by decide +kernel
theorem d3_41 : DC c3 41 (.aload_n 0) 1 := by decide +kernel
theorem d3_42 : DC c3 42 (.aload 5) 2 := by decide +kernel
theorem d3_44 : DC c3 44 (.iload_n 3) 1 := by decide +kernel
theorem d3_45 : DC c3 45 (.invokestatic 47) 3 := by decide +kernel
theorem ef6 {x0 : Addr} {x1 : Int32} (m : MethodId) : entryFrame m #[(.ref x0), (.int x1)] 2 = mkF m 0 #[.val (.ref x0), .val (.int x1)] [] := by simp [entryFrame, mkF, argsToLocals, Value.category, maxLocals]
abbrev y5 : MethodName := ⟨"java/lang/StringUTF16", "coderFromArrayLen", "([BI)B"⟩
theorem B6 : BI y5 "java/lang/StringUTF16" "coderFromArrayLen" := ⟨(plainFor_of_name pn_java_lang_StringUTF16), rfl, rfl⟩
abbrev c6 := jdk_52_method_15_code
theorem d6_0 : DC c6 0 (.iload_n 1) 1 := by decide +kernel
theorem d6_1 : DC c6 1 (.aload_n 0) 1 := by decide +kernel
theorem d6_2 : DC c6 2 .arraylength 1 := by decide +kernel
theorem d6_3 : DC c6 3 .isub 1 := by decide +kernel
theorem d6_4 : DC c6 4 (.bipush 31) 2 := by decide +kernel
theorem d6_6 : DC c6 6 .iushr 1 := by decide +kernel
theorem d6_7 : DC c6 7 .i2b 1 := by decide +kernel
theorem d6_8 : DC c6 8 .ireturn 1 := by decide +kernel
abbrev M6 := MM y5 c6 2 (some .byte)
theorem pd_3 : parseMethodDescriptor "([BI)B" = some ⟨[(.array .byte), .int], (some .byte)⟩ := by decide +kernel
def u3 : WS_static Z a0 "java/lang/String" 47 y5 c6 2 (some .byte) 2 := ⟨(w28 G), (w29 G), (w22 G), (w30 G), by decide +kernel, lenN pd_3 rfl⟩
theorem d3_48 : DC c3 48 (.putfield 15) 3 := by decide +kernel
theorem d3_51 : DC c3 51 (.aload_n 0) 1 := by decide +kernel
theorem d3_52 : DC c3 52 (.aload 5) 2 := by decide +kernel
theorem d3_54 : DC c3 54 (.putfield 9) 3 := by decide +kernel
def sn0 := slot_ne (Or.inr (w34 G)) (Or.inr (w32 G)) (by decide +kernel) (t := (.array .byte)) (t' := .byte) fd_1 fd_0
theorem d3_57 : DC c3 57 .return_ 1 := by decide +kernel
def sn1 := slot_ne (Or.inr (w32 G)) (Or.inr (w34 G)) (by decide +kernel) (t := .byte) (t' := (.array .byte)) fd_0 fd_1
abbrev M3 := MM y2 c3 6 none
theorem pd_4 : parseMethodDescriptor "([CIILjava/lang/Void;)V" = some ⟨[(.array .char), .int, .int, (.object "java/lang/Void")], none⟩ := by decide +kernel
def u4 : WS_special Z a0 "java/lang/String" 27 y2 c3 6 4 := ⟨(w8 G), rfl, (w12 G), (w13 G), (w15 G), by decide +kernel, lenN pd_4 rfl⟩
theorem d2_9 : DC c2 9 .return_ 1 := by decide +kernel
abbrev M2 := MM y1 c2 2 none
theorem pd_5 : parseMethodDescriptor "([C)V" = some ⟨[(.array .char)], none⟩ := by decide +kernel
def u5 : WS_special Z a0 "com/example/web_whiteboard/webwhiteboard/context/ServletPatternExtensionPinLaw" 16 y1 c2 2 1 := ⟨(w8 G), rfl, (w9 G), (w10 G), (w11 G), by decide +kernel, lenN pd_5 rfl⟩
theorem ef7 {x0 : Addr} (m : MethodId) : entryFrame m #[(.ref x0)] 3 = mkF m 0 #[.val (.ref x0), .unset, .unset] [] := by simp [entryFrame, mkF, argsToLocals, Value.category, maxLocals]
theorem pn_com_example_web_whiteboard_webwhiteboard_context_ServletPattern : plainName "com/example/web_whiteboard/webwhiteboard/context/ServletPattern" = true := by first | decide +kernel | (simp [plainName, overriddenIn]; done)
abbrev y6 : MethodName := ⟨"com/example/web_whiteboard/webwhiteboard/context/ServletPattern", "extension", "(Ljava/lang/String;)Ljava/lang/String;"⟩
theorem B7 : BI y6 "com/example/web_whiteboard/webwhiteboard/context/ServletPattern" "extension" := ⟨(plainFor_of_name pn_com_example_web_whiteboard_webwhiteboard_context_ServletPattern), rfl, rfl⟩
abbrev c7 := prog_4_method_11_code
theorem d7_0 : DC c7 0 (.aload_n 0) 1 := by decide +kernel
theorem d7_1 : DC c7 1 (.aload_n 0) 1 := by decide +kernel
theorem d7_2 : DC c7 2 (.bipush 47) 2 := by decide +kernel
theorem d7_4 : DC c7 4 (.invokevirtual 143) 3 := by decide +kernel
abbrev y7 : MethodName := ⟨"java/lang/String", "lastIndexOf", "(I)I"⟩
theorem B8 : BI y7 "java/lang/String" "lastIndexOf" := ⟨(plainFor_of_name pn_java_lang_String), rfl, rfl⟩
abbrev c8 := jdk_42_method_82_code
theorem d8_0 : DC c8 0 (.aload_n 0) 1 := by decide +kernel
theorem d8_1 : DC c8 1 (.iload_n 1) 1 := by decide +kernel
theorem d8_2 : DC c8 2 (.aload_n 0) 1 := by decide +kernel
theorem d8_3 : DC c8 3 (.invokevirtual 505) 3 := by decide +kernel
theorem ef8 {x0 : Addr} (m : MethodId) : entryFrame m #[(.ref x0)] 1 = mkF m 0 #[.val (.ref x0)] [] := by simp [entryFrame, mkF, argsToLocals, Value.category, maxLocals]
abbrev y8 : MethodName := ⟨"java/lang/String", "length", "()I"⟩
theorem B9 : BI y8 "java/lang/String" "length" := ⟨(plainFor_of_name pn_java_lang_String), rfl, rfl⟩
abbrev c9 := jdk_42_method_54_code
theorem d9_0 : DC c9 0 (.aload_n 0) 1 := by decide +kernel
theorem d9_1 : DC c9 1 (.getfield 9) 3 := by decide +kernel
theorem d9_4 : DC c9 4 .arraylength 1 := by decide +kernel
theorem d9_5 : DC c9 5 (.aload_n 0) 1 := by decide +kernel
theorem d9_6 : DC c9 6 (.invokevirtual 335) 3 := by decide +kernel
abbrev y9 : MethodName := ⟨"java/lang/String", "coder", "()B"⟩
theorem B10 : BI y9 "java/lang/String" "coder" := ⟨(plainFor_of_name pn_java_lang_String), rfl, rfl⟩
abbrev c10 := jdk_42_method_152_code
theorem d10_0 : DC c10 0 (.getstatic 38) 3 := by decide +kernel
theorem d10_3 : DC c10 3 (.ifCond .eq 10) 3 := by decide +kernel
theorem d10_6 : DC c10 6 (.aload_n 0) 1 := by decide +kernel
theorem d10_7 : DC c10 7 (.getfield 15) 3 := by decide +kernel
theorem d10_10 : DC c10 10 (.goto 4) 3 := by decide +kernel
theorem d10_14 : DC c10 14 .ireturn 1 := by decide +kernel
abbrev M10 := MM y9 c10 1 (some .byte)
theorem pd_6 : parseMethodDescriptor "()B" = some ⟨[], (some .byte)⟩ := by decide +kernel
def u6 : WS_virtual Z a0 "java/lang/String" 335 "java/lang/String" y9 y9 c10 1 (some .byte) 0 := ⟨(w53 G), (w8 G), (w49 G), (w50 G), (w52 G), (w51 G), (nf_sel (w52 G)), by decide +kernel, lenN pd_6 rfl⟩
theorem d9_9 : DC c9 9 .ishr 1 := by decide +kernel
theorem d9_10 : DC c9 10 .ireturn 1 := by decide +kernel
abbrev M9 := MM y8 c9 1 (some .int)
theorem pd_7 : parseMethodDescriptor "()I" = some ⟨[], (some .int)⟩ := by decide +kernel
def u7 : WS_virtual Z a0 "java/lang/String" 505 "java/lang/String" y8 y8 c9 1 (some .int) 0 := ⟨(w48 G), (w8 G), (w44 G), (w45 G), (w47 G), (w46 G), (nf_sel (w47 G)), by decide +kernel, lenN pd_7 rfl⟩
theorem d8_6 : DC c8 6 (.iconst 1) 1 := by decide +kernel
theorem d8_7 : DC c8 7 .isub 1 := by decide +kernel
theorem d8_8 : DC c8 8 (.invokevirtual 641) 3 := by decide +kernel
theorem ef9 {x0 : Addr} {x1 : Int32} {x2 : Int32} (m : MethodId) : entryFrame m #[(.ref x0), (.int x1), (.int x2)] 3 = mkF m 0 #[.val (.ref x0), .val (.int x1), .val (.int x2)] [] := by simp [entryFrame, mkF, argsToLocals, Value.category, maxLocals]
abbrev y10 : MethodName := ⟨"java/lang/String", "lastIndexOf", "(II)I"⟩
theorem B11 : BI y10 "java/lang/String" "lastIndexOf" := ⟨(plainFor_of_name pn_java_lang_String), rfl, rfl⟩
abbrev c11 := jdk_42_method_83_code
theorem d11_0 : DC c11 0 (.aload_n 0) 1 := by decide +kernel
theorem d11_1 : DC c11 1 (.invokevirtual 492) 3 := by decide +kernel
abbrev y11 : MethodName := ⟨"java/lang/String", "isLatin1", "()Z"⟩
theorem B12 : BI y11 "java/lang/String" "isLatin1" := ⟨(plainFor_of_name pn_java_lang_String), rfl, rfl⟩
abbrev c12 := jdk_42_method_154_code
theorem d12_0 : DC c12 0 (.getstatic 38) 3 := by decide +kernel
theorem d12_3 : DC c12 3 (.ifCond .eq 14) 3 := by decide +kernel
theorem d12_6 : DC c12 6 (.aload_n 0) 1 := by decide +kernel
theorem d12_7 : DC c12 7 (.getfield 15) 3 := by decide +kernel
theorem d12_10 : DC c12 10 (.ifCond .ne 7) 3 := by decide +kernel
theorem d12_13 : DC c12 13 (.iconst 1) 1 := by decide +kernel
theorem d12_14 : DC c12 14 (.goto 4) 3 := by decide +kernel
theorem d12_18 : DC c12 18 .ireturn 1 := by decide +kernel
abbrev M12 := MM y11 c12 1 (some .boolean)
theorem pd_8 : parseMethodDescriptor "()Z" = some ⟨[], (some .boolean)⟩ := by decide +kernel
def u8 : WS_virtual Z a0 "java/lang/String" 492 "java/lang/String" y11 y11 c12 1 (some .boolean) 0 := ⟨(w63 G), (w8 G), (w59 G), (w60 G), (w62 G), (w61 G), (nf_sel (w62 G)), by decide +kernel, lenN pd_8 rfl⟩
theorem d11_4 : DC c11 4 (.ifCond .eq 15) 3 := by decide +kernel
theorem d11_7 : DC c11 7 (.aload_n 0) 1 := by decide +kernel
theorem d11_8 : DC c11 8 (.getfield 9) 3 := by decide +kernel
theorem d11_11 : DC c11 11 (.iload_n 1) 1 := by decide +kernel
theorem d11_12 : DC c11 12 (.iload_n 2) 1 := by decide +kernel
theorem d11_13 : DC c11 13 (.invokestatic 644) 3 := by decide +kernel
theorem ef10 {x0 : Addr} {x1 : Int32} {x2 : Int32} (m : MethodId) : entryFrame m #[(.ref x0), (.int x1), (.int x2)] 4 = mkF m 0 #[.val (.ref x0), .val (.int x1), .val (.int x2), .unset] [] := by simp [entryFrame, mkF, argsToLocals, Value.category, maxLocals]
theorem pn_java_lang_StringLatin1 : plainName "java/lang/StringLatin1" = true := by first | decide +kernel | (simp [plainName, overriddenIn]; done)
abbrev y12 : MethodName := ⟨"java/lang/StringLatin1", "lastIndexOf", "([BII)I"⟩
theorem B13 : BI y12 "java/lang/StringLatin1" "lastIndexOf" := ⟨(plainFor_of_name pn_java_lang_StringLatin1), rfl, rfl⟩
abbrev c13 := jdk_43_method_27_code
theorem d13_0 : DC c13 0 (.iload_n 1) 1 := by decide +kernel
theorem d13_1 : DC c13 1 (.invokestatic 88) 3 := by decide +kernel
theorem ef11 {x0 : Int32} (m : MethodId) : entryFrame m #[(.int x0)] 1 = mkF m 0 #[.val (.int x0)] [] := by simp [entryFrame, mkF, argsToLocals, Value.category, maxLocals]
abbrev y13 : MethodName := ⟨"java/lang/StringLatin1", "canEncode", "(I)Z"⟩
theorem B14 : BI y13 "java/lang/StringLatin1" "canEncode" := ⟨(plainFor_of_name pn_java_lang_StringLatin1), rfl, rfl⟩
abbrev c14 := jdk_43_method_4_code
theorem d14_0 : DC c14 0 (.iload_n 0) 1 := by decide +kernel
theorem d14_1 : DC c14 1 (.ifCond .lt 14) 3 := by decide +kernel
theorem d14_4 : DC c14 4 (.iload_n 0) 1 := by decide +kernel
theorem d14_5 : DC c14 5 (.sipush 255) 3 := by decide +kernel
theorem d14_8 : DC c14 8 (.if_icmp .gt 7) 3 := by decide +kernel
theorem d14_11 : DC c14 11 (.iconst 1) 1 := by decide +kernel
theorem d14_12 : DC c14 12 (.goto 4) 3 := by decide +kernel
theorem d14_16 : DC c14 16 .ireturn 1 := by decide +kernel
abbrev M14 := MM y13 c14 1 (some .boolean)
theorem pd_9 : parseMethodDescriptor "(I)Z" = some ⟨[.int], (some .boolean)⟩ := by decide +kernel
def u9 : WS_static Z a0 "java/lang/StringLatin1" 88 y13 c14 1 (some .boolean) 1 := ⟨(w68 G), (w69 G), (w66 G), (w70 G), by decide +kernel, lenN pd_9 rfl⟩
theorem d13_4 : DC c13 4 (.ifCond .ne 5) 3 := by decide +kernel
theorem d13_9 : DC c13 9 (.iload_n 2) 1 := by decide +kernel
theorem d13_10 : DC c13 10 (.aload_n 0) 1 := by decide +kernel
theorem d13_11 : DC c13 11 .arraylength 1 := by decide +kernel
theorem d13_12 : DC c13 12 (.iconst 1) 1 := by decide +kernel
theorem d13_13 : DC c13 13 .isub 1 := by decide +kernel
theorem d13_14 : DC c13 14 (.invokestatic 38) 3 := by decide +kernel
theorem ef12 {x0 : Int32} {x1 : Int32} (m : MethodId) : entryFrame m #[(.int x0), (.int x1)] 2 = mkF m 0 #[.val (.int x0), .val (.int x1)] [] := by simp [entryFrame, mkF, argsToLocals, Value.category, maxLocals]
theorem pf_15 : plainFor ⟨"java/lang/Math", "min", "(II)I"⟩ = true := by decide +kernel
abbrev y14 : MethodName := ⟨"java/lang/Math", "min", "(II)I"⟩
theorem B15 : BI y14 "java/lang/Math" "min" := ⟨pf_15, rfl, rfl⟩
abbrev c15 := jdk_29_method_69_code
theorem d15_0 : DC c15 0 (.iload_n 0) 1 := by decide +kernel
theorem d15_1 : DC c15 1 (.iload_n 1) 1 := by decide +kernel
theorem d15_2 : DC c15 2 (.if_icmp .gt 7) 3 := by decide +kernel
theorem d15_5 : DC c15 5 (.iload_n 0) 1 := by decide +kernel
theorem d15_6 : DC c15 6 (.goto 4) 3 := by decide +kernel
theorem d15_10 : DC c15 10 .ireturn 1 := by decide +kernel
abbrev M15 := MM y14 c15 2 (some .int)
theorem pd_10 : parseMethodDescriptor "(II)I" = some ⟨[.int, .int], (some .int)⟩ := by decide +kernel
def u10 : WS_static Z a0 "java/lang/StringLatin1" 38 y14 c15 2 (some .int) 2 := ⟨(w71 G), (w72 G), (w73 G), (w74 G), by decide +kernel, lenN pd_10 rfl⟩
theorem d13_17 : DC c13 17 (.istore_n 3) 1 := by decide +kernel
theorem d13_18 : DC c13 18 (.iload_n 3) 1 := by decide +kernel
theorem d13_19 : DC c13 19 (.ifCond .lt 19) 3 := by decide +kernel
theorem d13_22 : DC c13 22 (.aload_n 0) 1 := by decide +kernel
theorem d13_23 : DC c13 23 (.iload_n 3) 1 := by decide +kernel
theorem d13_24 : DC c13 24 .baload 1 := by decide +kernel
theorem d13_25 : DC c13 25 (.iload_n 1) 1 := by decide +kernel
theorem d13_26 : DC c13 26 .i2b 1 := by decide +kernel
theorem d13_27 : DC c13 27 (.if_icmp .ne 5) 3 := by decide +kernel
theorem d13_30 : DC c13 30 (.iload_n 3) 1 := by decide +kernel
theorem d13_31 : DC c13 31 .ireturn 1 := by decide +kernel
abbrev M13 := MM y12 c13 4 (some .int)
theorem pd_11 : parseMethodDescriptor "([BII)I" = some ⟨[(.array .byte), .int, .int], (some .int)⟩ := by decide +kernel
def u11 : WS_static Z a0 "java/lang/String" 644 y12 c13 4 (some .int) 3 := ⟨(w64 G), (w65 G), (w66 G), (w67 G), by decide +kernel, lenN pd_11 rfl⟩
theorem d11_16 : DC c11 16 (.goto 12) 3 := by decide +kernel
theorem d11_28 : DC c11 28 .ireturn 1 := by decide +kernel
abbrev M11 := MM y10 c11 3 (some .int)
def u12 : WS_virtual Z a0 "java/lang/String" 641 "java/lang/String" y10 y10 c11 3 (some .int) 2 := ⟨(w58 G), (w8 G), (w54 G), (w55 G), (w57 G), (w56 G), (nf_sel (w57 G)), by decide +kernel, lenN pd_10 rfl⟩
theorem d8_11 : DC c8 11 .ireturn 1 := by decide +kernel
abbrev M8 := MM y7 c8 2 (some .int)
theorem pd_12 : parseMethodDescriptor "(I)I" = some ⟨[.int], (some .int)⟩ := by decide +kernel
def u13 : WS_virtual Z a0 "com/example/web_whiteboard/webwhiteboard/context/ServletPattern" 143 "java/lang/String" y7 y7 c8 2 (some .int) 1 := ⟨(w43 G), (w8 G), (w39 G), (w40 G), (w42 G), (w41 G), (nf_sel (w42 G)), by decide +kernel, lenN pd_12 rfl⟩
theorem d7_7 : DC c7 7 (.iconst 1) 1 := by decide +kernel
theorem d7_8 : DC c7 8 .iadd 1 := by decide +kernel
theorem d7_9 : DC c7 9 (.invokevirtual 80) 3 := by decide +kernel
abbrev y15 : MethodName := ⟨"java/lang/String", "substring", "(I)Ljava/lang/String;"⟩
theorem B16 : BI y15 "java/lang/String" "substring" := ⟨(plainFor_of_name pn_java_lang_String), rfl, rfl⟩
abbrev c16 := jdk_42_method_91_code
theorem d16_0 : DC c16 0 (.aload_n 0) 1 := by decide +kernel
theorem d16_1 : DC c16 1 (.iload_n 1) 1 := by decide +kernel
theorem d16_2 : DC c16 2 (.aload_n 0) 1 := by decide +kernel
theorem d16_3 : DC c16 3 (.invokevirtual 505) 3 := by decide +kernel
theorem d16_6 : DC c16 6 (.invokevirtual 681) 3 := by decide +kernel
theorem ef13 {x0 : Addr} {x1 : Int32} {x2 : Int32} (m : MethodId) : entryFrame m #[(.ref x0), (.int x1), (.int x2)] 5 = mkF m 0 #[.val (.ref x0), .val (.int x1), .val (.int x2), .unset, .unset] [] := by simp [entryFrame, mkF, argsToLocals, Value.category, maxLocals]
abbrev y16 : MethodName := ⟨"java/lang/String", "substring", "(II)Ljava/lang/String;"⟩
theorem B17 : BI y16 "java/lang/String" "substring" := ⟨(plainFor_of_name pn_java_lang_String), rfl, rfl⟩
abbrev c17 := jdk_42_method_92_code
theorem d17_0 : DC c17 0 (.aload_n 0) 1 := by decide +kernel
theorem d17_1 : DC c17 1 (.invokevirtual 505) 3 := by decide +kernel
theorem d17_4 : DC c17 4 (.istore_n 3) 1 := by decide +kernel
theorem d17_5 : DC c17 5 (.iload_n 1) 1 := by decide +kernel
theorem d17_6 : DC c17 6 (.iload_n 2) 1 := by decide +kernel
theorem d17_7 : DC c17 7 (.iload_n 3) 1 := by decide +kernel
theorem d17_8 : DC c17 8 (.invokestatic 521) 3 := by decide +kernel
theorem ef14 {x0 : Int32} {x1 : Int32} {x2 : Int32} (m : MethodId) : entryFrame m #[(.int x0), (.int x1), (.int x2)] 3 = mkF m 0 #[.val (.int x0), .val (.int x1), .val (.int x2)] [] := by simp [entryFrame, mkF, argsToLocals, Value.category, maxLocals]
abbrev y17 : MethodName := ⟨"java/lang/String", "checkBoundsBeginEnd", "(III)V"⟩
theorem B18 : BI y17 "java/lang/String" "checkBoundsBeginEnd" := ⟨(plainFor_of_name pn_java_lang_String), rfl, rfl⟩
abbrev c18 := jdk_42_method_158_code
theorem d18_0 : DC c18 0 (.iload_n 0) 1 := by decide +kernel
theorem d18_1 : DC c18 1 (.iload_n 1) 1 := by decide +kernel
theorem d18_2 : DC c18 2 (.iload_n 2) 1 := by decide +kernel
theorem d18_3 : DC c18 3 (.getstatic 1053) 3 := by decide +kernel
theorem d18_6 : DC c18 6 (.invokestatic 1062) 3 := by decide +kernel
theorem ef15 {x0 : Int32} {x1 : Int32} {x2 : Int32} {x3 : Value} (r3 : x3.isRef = true) (m : MethodId) : entryFrame m #[(.int x0), (.int x1), (.int x2), x3] 4 = mkF m 0 #[.val (.int x0), .val (.int x1), .val (.int x2), .val x3] [] := by
  rcases ref_cases r3 with rfl | ⟨q3, rfl⟩ <;> first | rfl | (simp [entryFrame, mkF, argsToLocals, Value.category, maxLocals]; done)
theorem pn_jdk_internal_util_Preconditions : plainName "jdk/internal/util/Preconditions" = true := by first | decide +kernel | (simp [plainName, overriddenIn]; done)
abbrev y18 : MethodName := ⟨"jdk/internal/util/Preconditions", "checkFromToIndex", "(IIILjava/util/function/BiFunction;)I"⟩
theorem B19 : BI y18 "jdk/internal/util/Preconditions" "checkFromToIndex" := ⟨(plainFor_of_name pn_jdk_internal_util_Preconditions), rfl, rfl⟩
abbrev c19 := jdk_41_method_12_code
theorem d19_0 : DC c19 0 (.iload_n 0) 1 := by decide +kernel
theorem d19_1 : DC c19 1 (.ifCond .lt 13) 3 := by decide +kernel
theorem d19_4 : DC c19 4 (.iload_n 0) 1 := by decide +kernel
theorem d19_5 : DC c19 5 (.iload_n 1) 1 := by decide +kernel
theorem d19_6 : DC c19 6 (.if_icmp .gt 8) 3 := by decide +kernel
theorem d19_9 : DC c19 9 (.iload_n 1) 1 := by decide +kernel
theorem d19_10 : DC c19 10 (.iload_n 2) 1 := by decide +kernel
theorem d19_11 : DC c19 11 (.if_icmp .le 11) 3 := by decide +kernel
theorem d19_22 : DC c19 22 (.iload_n 0) 1 := by decide +kernel
theorem d19_23 : DC c19 23 .ireturn 1 := by decide +kernel
abbrev M19 := MM y18 c19 4 (some .int)
theorem pd_13 : parseMethodDescriptor "(IIILjava/util/function/BiFunction;)I" = some ⟨[.int, .int, .int, (.object "java/util/function/BiFunction")], (some .int)⟩ := by decide +kernel
def u14 : WS_static Z a0 "java/lang/String" 1062 y18 c19 4 (some .int) 4 := ⟨(w90 G), (w91 G), (w89 G), (w92 G), by decide +kernel, lenN pd_13 rfl⟩
theorem d18_9 : DC c18 9 .pop 1 := by decide +kernel
theorem d18_10 : DC c18 10 .return_ 1 := by decide +kernel
abbrev M18 := MM y17 c18 3 none
theorem pd_14 : parseMethodDescriptor "(III)V" = some ⟨[.int, .int, .int], none⟩ := by decide +kernel
def u15 : WS_static Z a0 "java/lang/String" 521 y17 c18 3 none 3 := ⟨(w85 G), (w86 G), (w8 G), (w87 G), by decide +kernel, lenN pd_14 rfl⟩
theorem d17_11 : DC c17 11 (.iload_n 1) 1 := by decide +kernel
theorem d17_12 : DC c17 12 (.ifCond .ne 10) 3 := by decide +kernel
theorem d17_22 : DC c17 22 (.iload_n 2) 1 := by decide +kernel
theorem d17_23 : DC c17 23 (.iload_n 1) 1 := by decide +kernel
theorem d17_24 : DC c17 24 .isub 1 := by decide +kernel
theorem d17_25 : DC c17 25 (.istore 4) 2 := by decide +kernel
theorem d17_27 : DC c17 27 (.aload_n 0) 1 := by decide +kernel
theorem d17_28 : DC c17 28 (.invokevirtual 492) 3 := by decide +kernel
theorem d17_31 : DC c17 31 (.ifCond .eq 16) 3 := by decide +kernel
theorem d17_34 : DC c17 34 (.aload_n 0) 1 := by decide +kernel
theorem d17_35 : DC c17 35 (.getfield 9) 3 := by decide +kernel
theorem d17_38 : DC c17 38 (.iload_n 1) 1 := by decide +kernel
theorem d17_39 : DC c17 39 (.iload 4) 2 := by decide +kernel
theorem d17_41 : DC c17 41 (.invokestatic 685) 3 := by decide +kernel
abbrev y19 : MethodName := ⟨"java/lang/StringLatin1", "newString", "([BII)Ljava/lang/String;"⟩
theorem B20 : BI y19 "java/lang/StringLatin1" "newString" := ⟨(plainFor_of_name pn_java_lang_StringLatin1), rfl, rfl⟩
abbrev c20 := jdk_43_method_47_code
theorem d20_0 : DC c20 0 (.iload_n 2) 1 := by decide +kernel
theorem d20_1 : DC c20 1 (.ifCond .ne 6) 3 := by decide +kernel
theorem d20_4 : DC c20 4 (.ldc 151) 2 := by decide +kernel
theorem d20_6 : DC c20 6 .areturn 1 := by decide +kernel
abbrev M20 := MM y19 c20 3 (some (.object "java/lang/String"))
theorem pd_15 : parseMethodDescriptor "([BII)Ljava/lang/String;" = some ⟨[(.array .byte), .int, .int], (some (.object "java/lang/String"))⟩ := by decide +kernel
def u16 : WS_static Z a0 "java/lang/String" 685 y19 c20 3 (some (.object "java/lang/String")) 3 := ⟨(w93 G), (w94 G), (w66 G), (w95 G), by decide +kernel, lenN pd_15 rfl⟩
theorem d17_44 : DC c17 44 (.goto 13) 3 := by decide +kernel
theorem d17_57 : DC c17 57 .areturn 1 := by decide +kernel
abbrev M17 := MM y16 c17 5 (some (.object "java/lang/String"))
theorem pd_16 : parseMethodDescriptor "(II)Ljava/lang/String;" = some ⟨[.int, .int], (some (.object "java/lang/String"))⟩ := by decide +kernel
def u17 : WS_virtual Z a0 "java/lang/String" 681 "java/lang/String" y16 y16 c17 5 (some (.object "java/lang/String")) 2 := ⟨(w84 G), (w8 G), (w80 G), (w81 G), (w83 G), (w82 G), (nf_sel (w83 G)), by decide +kernel, lenN pd_16 rfl⟩
theorem d16_9 : DC c16 9 .areturn 1 := by decide +kernel
abbrev M16 := MM y15 c16 2 (some (.object "java/lang/String"))
theorem pd_17 : parseMethodDescriptor "(I)Ljava/lang/String;" = some ⟨[.int], (some (.object "java/lang/String"))⟩ := by decide +kernel
def u18 : WS_virtual Z a0 "com/example/web_whiteboard/webwhiteboard/context/ServletPattern" 80 "java/lang/String" y15 y15 c16 2 (some (.object "java/lang/String")) 1 := ⟨(w79 G), (w8 G), (w75 G), (w76 G), (w78 G), (w77 G), (nf_sel (w78 G)), by decide +kernel, lenN pd_17 rfl⟩
theorem d7_12 : DC c7 12 (.astore_n 1) 1 := by decide +kernel
theorem d7_13 : DC c7 13 (.aload_n 1) 1 := by decide +kernel
theorem d7_14 : DC c7 14 (.bipush 46) 2 := by decide +kernel
theorem d7_16 : DC c7 16 (.invokevirtual 143) 3 := by decide +kernel
theorem d13_38 : DC c13 38 (.iconst (-1)) 1 := by decide +kernel
theorem d13_39 : DC c13 39 .ireturn 1 := by decide +kernel
theorem d7_19 : DC c7 19 (.istore_n 2) 1 := by decide +kernel
theorem d7_20 : DC c7 20 (.iload_n 2) 1 := by decide +kernel
theorem d7_21 : DC c7 21 (.ifCond .ge 7) 3 := by decide +kernel
theorem d7_24 : DC c7 24 .aconst_null 1 := by decide +kernel
theorem d7_25 : DC c7 25 (.goto 10) 3 := by decide +kernel
theorem d7_35 : DC c7 35 .areturn 1 := by decide +kernel
abbrev M7 := MM y6 c7 3 (some (.object "java/lang/String"))
theorem pd_18 : parseMethodDescriptor "(Ljava/lang/String;)Ljava/lang/String;" = some ⟨[(.object "java/lang/String")], (some (.object "java/lang/String"))⟩ := by decide +kernel
def u19 : WS_static Z a0 "com/example/web_whiteboard/webwhiteboard/context/ServletPatternExtensionPinLaw" 19 y6 c7 3 (some (.object "java/lang/String")) 1 := ⟨(w35 G), (w36 G), (w37 G), (w38 G), by decide +kernel, lenN pd_18 rfl⟩
theorem d13_32 : DC c13 32 (.iinc 3 (-1)) 3 := by decide +kernel
theorem d13_35 : DC c13 35 (.goto (-17)) 3 := by decide +kernel
theorem d20_7 : DC c20 7 (.new 1) 3 := by decide +kernel
theorem d20_10 : DC c20 10 .dup 1 := by decide +kernel
theorem d20_11 : DC c20 11 (.aload_n 0) 1 := by decide +kernel
theorem d20_12 : DC c20 12 (.iload_n 1) 1 := by decide +kernel
theorem d20_13 : DC c20 13 (.iload_n 1) 1 := by decide +kernel
theorem d20_14 : DC c20 14 (.iload_n 2) 1 := by decide +kernel
theorem d20_15 : DC c20 15 .iadd 1 := by decide +kernel
theorem d20_16 : DC c20 16 (.invokestatic 232) 3 := by decide +kernel
theorem pn_java_util_Arrays : plainName "java/util/Arrays" = true := by first | decide +kernel | (simp [plainName, overriddenIn]; done)
abbrev y20 : MethodName := ⟨"java/util/Arrays", "copyOfRange", "([BII)[B"⟩
theorem B21 : BI y20 "java/util/Arrays" "copyOfRange" := ⟨(plainFor_of_name pn_java_util_Arrays), rfl, rfl⟩
abbrev c21 := jdk_65_method_132_code
theorem d21_0 : DC c21 0 (.iload_n 1) 1 := by decide +kernel
theorem d21_1 : DC c21 1 (.ifCond .ne 9) 3 := by decide +kernel
theorem d21_10 : DC c21 10 (.aload_n 0) 1 := by decide +kernel
theorem d21_11 : DC c21 11 (.iload_n 1) 1 := by decide +kernel
theorem d21_12 : DC c21 12 (.iload_n 2) 1 := by decide +kernel
theorem d21_13 : DC c21 13 (.invokestatic 339) 3 := by decide +kernel
abbrev y21 : MethodName := ⟨"java/util/Arrays", "copyOfRangeByte", "([BII)[B"⟩
theorem B22 : BI y21 "java/util/Arrays" "copyOfRangeByte" := ⟨(plainFor_of_name pn_java_util_Arrays), rfl, rfl⟩
abbrev c22 := jdk_65_method_133_code
theorem d22_0 : DC c22 0 (.iload_n 1) 1 := by decide +kernel
theorem d22_1 : DC c22 1 (.iload_n 2) 1 := by decide +kernel
theorem d22_2 : DC c22 2 (.invokestatic 343) 3 := by decide +kernel
abbrev y22 : MethodName := ⟨"java/util/Arrays", "checkLength", "(II)V"⟩
theorem B23 : BI y22 "java/util/Arrays" "checkLength" := ⟨(plainFor_of_name pn_java_util_Arrays), rfl, rfl⟩
abbrev c23 := jdk_65_method_131_code
theorem d23_0 : DC c23 0 (.iload_n 1) 1 := by decide +kernel
theorem d23_1 : DC c23 1 (.iload_n 0) 1 := by decide +kernel
theorem d23_2 : DC c23 2 (.if_icmp .ge 35) 3 := by decide +kernel
theorem d23_37 : DC c23 37 .return_ 1 := by decide +kernel
abbrev M23 := MM y22 c23 2 none
theorem pd_19 : parseMethodDescriptor "(II)V" = some ⟨[.int, .int], none⟩ := by decide +kernel
def u20 : WS_static Z a0 "java/util/Arrays" 343 y22 c23 2 none 2 := ⟨(w107 G), (w108 G), (w102 G), (w109 G), by decide +kernel, lenN pd_19 rfl⟩
theorem d22_5 : DC c22 5 (.iload_n 2) 1 := by decide +kernel
theorem d22_6 : DC c22 6 (.iload_n 1) 1 := by decide +kernel
theorem d22_7 : DC c22 7 .isub 1 := by decide +kernel
theorem d22_8 : DC c22 8 (.istore_n 3) 1 := by decide +kernel
theorem d22_9 : DC c22 9 (.iload_n 3) 1 := by decide +kernel
theorem d22_10 : DC c22 10 (.newarray .byte) 2 := by decide +kernel
theorem d22_12 : DC c22 12 (.astore 4) 2 := by decide +kernel
theorem d22_14 : DC c22 14 (.aload_n 0) 1 := by decide +kernel
theorem d22_15 : DC c22 15 (.iload_n 1) 1 := by decide +kernel
theorem d22_16 : DC c22 16 (.aload 4) 2 := by decide +kernel
theorem d22_18 : DC c22 18 (.iconst 0) 1 := by decide +kernel
theorem d22_19 : DC c22 19 (.aload_n 0) 1 := by decide +kernel
theorem d22_20 : DC c22 20 .arraylength 1 := by decide +kernel
theorem d22_21 : DC c22 21 (.iload_n 1) 1 := by decide +kernel
theorem d22_22 : DC c22 22 .isub 1 := by decide +kernel
theorem d22_23 : DC c22 23 (.iload_n 3) 1 := by decide +kernel
theorem d22_24 : DC c22 24 (.invokestatic 304) 3 := by decide +kernel
def u21 : WS_static Z a0 "java/util/Arrays" 304 y14 c15 2 (some .int) 2 := ⟨(w110 G), (w72 G), (w73 G), (w74 G), by decide +kernel, lenN pd_10 rfl⟩
theorem d22_27 : DC c22 27 (.invokestatic 150) 3 := by decide +kernel
theorem d22_30 : DC c22 30 (.aload 4) 2 := by decide +kernel
theorem d22_32 : DC c22 32 .areturn 1 := by decide +kernel
abbrev M22 := MM y21 c22 5 (some (.array .byte))
theorem pd_20 : parseMethodDescriptor "([BII)[B" = some ⟨[(.array .byte), .int, .int], (some (.array .byte))⟩ := by decide +kernel
def u22 : WS_static Z a0 "java/util/Arrays" 339 y21 c22 5 (some (.array .byte)) 3 := ⟨(w104 G), (w105 G), (w102 G), (w106 G), by decide +kernel, lenN pd_20 rfl⟩
theorem d21_16 : DC c21 16 .areturn 1 := by decide +kernel
abbrev M21 := MM y20 c21 3 (some (.array .byte))
def u23 : WS_static Z a0 "java/lang/StringLatin1" 232 y20 c21 3 (some (.array .byte)) 3 := ⟨(w100 G), (w101 G), (w102 G), (w103 G), by decide +kernel, lenN pd_20 rfl⟩
theorem d20_19 : DC c20 19 (.iconst 0) 1 := by decide +kernel
theorem d20_20 : DC c20 20 (.invokespecial 112) 3 := by decide +kernel
theorem ef16 {x0 : Addr} {x1 : Addr} {x2 : Int32} (m : MethodId) : entryFrame m #[(.ref x0), (.ref x1), (.int x2)] 3 = mkF m 0 #[.val (.ref x0), .val (.ref x1), .val (.int x2)] [] := by simp [entryFrame, mkF, argsToLocals, Value.category, maxLocals]
abbrev y23 : MethodName := ⟨"java/lang/String", "<init>", "([BB)V"⟩
theorem B24 : BI y23 "java/lang/String" "<init>" := ⟨(plainFor_of_name pn_java_lang_String), rfl, rfl⟩
abbrev c24 := jdk_42_method_151_code
theorem d24_0 : DC c24 0 (.aload_n 0) 1 := by decide +kernel
theorem d24_1 : DC c24 1 (.invokespecial 1) 3 := by decide +kernel
theorem d24_4 : DC c24 4 (.aload_n 0) 1 := by decide +kernel
theorem d24_5 : DC c24 5 (.aload_n 1) 1 := by decide +kernel
theorem d24_6 : DC c24 6 (.putfield 9) 3 := by decide +kernel
theorem d24_9 : DC c24 9 (.aload_n 0) 1 := by decide +kernel
theorem d24_10 : DC c24 10 (.iload_n 2) 1 := by decide +kernel
theorem d24_11 : DC c24 11 (.putfield 15) 3 := by decide +kernel
theorem d24_14 : DC c24 14 .return_ 1 := by decide +kernel
abbrev M24 := MM y23 c24 3 none
theorem pd_21 : parseMethodDescriptor "([BB)V" = some ⟨[(.array .byte), .byte], none⟩ := by decide +kernel
def u24 : WS_special Z a0 "java/lang/StringLatin1" 112 y23 c24 3 2 := ⟨(w8 G), rfl, (w115 G), (w116 G), (w117 G), by decide +kernel, lenN pd_21 rfl⟩
theorem d20_23 : DC c20 23 .areturn 1 := by decide +kernel
theorem d7_28 : DC c7 28 (.aload_n 1) 1 := by decide +kernel
theorem d7_29 : DC c7 29 (.iload_n 2) 1 := by decide +kernel
theorem d7_30 : DC c7 30 (.iconst 1) 1 := by decide +kernel
theorem d7_31 : DC c7 31 .iadd 1 := by decide +kernel
theorem d7_32 : DC c7 32 (.invokevirtual 80) 3 := by decide +kernel
def u25 : WS_virtual Z a0 "com/example/web_whiteboard/webwhiteboard/context/ServletPatternExtensionPinLaw" 25 "java/lang/String" y8 y8 c9 1 (some .int) 0 := ⟨(w48 G), (w8 G), (w118 G), (w45 G), (w47 G), (w46 G), (nf_sel (w47 G)), by decide +kernel, lenN pd_7 rfl⟩
abbrev y24 : MethodName := ⟨"java/lang/String", "charAt", "(I)C"⟩
theorem B25 : BI y24 "java/lang/String" "charAt" := ⟨(plainFor_of_name pn_java_lang_String), rfl, rfl⟩
abbrev c25 := jdk_42_method_56_code
theorem d25_0 : DC c25 0 (.aload_n 0) 1 := by decide +kernel
theorem d25_1 : DC c25 1 (.invokevirtual 492) 3 := by decide +kernel
theorem d25_4 : DC c25 4 (.ifCond .eq 12) 3 := by decide +kernel
theorem d25_7 : DC c25 7 (.aload_n 0) 1 := by decide +kernel
theorem d25_8 : DC c25 8 (.getfield 9) 3 := by decide +kernel
theorem d25_11 : DC c25 11 (.iload_n 1) 1 := by decide +kernel
theorem d25_12 : DC c25 12 (.invokestatic 495) 3 := by decide +kernel
abbrev y25 : MethodName := ⟨"java/lang/StringLatin1", "charAt", "([BI)C"⟩
theorem B26 : BI y25 "java/lang/StringLatin1" "charAt" := ⟨(plainFor_of_name pn_java_lang_StringLatin1), rfl, rfl⟩
abbrev c26 := jdk_43_method_2_code
theorem d26_0 : DC c26 0 (.iload_n 1) 1 := by decide +kernel
theorem d26_1 : DC c26 1 (.aload_n 0) 1 := by decide +kernel
theorem d26_2 : DC c26 2 .arraylength 1 := by decide +kernel
theorem d26_3 : DC c26 3 (.invokestatic 9) 3 := by decide +kernel
abbrev y26 : MethodName := ⟨"java/lang/String", "checkIndex", "(II)V"⟩
theorem B27 : BI y26 "java/lang/String" "checkIndex" := ⟨(plainFor_of_name pn_java_lang_String), rfl, rfl⟩
abbrev c27 := jdk_42_method_155_code
theorem d27_0 : DC c27 0 (.iload_n 0) 1 := by decide +kernel
theorem d27_1 : DC c27 1 (.iload_n 1) 1 := by decide +kernel
theorem d27_2 : DC c27 2 (.getstatic 1053) 3 := by decide +kernel
theorem d27_5 : DC c27 5 (.invokestatic 1059) 3 := by decide +kernel
theorem ef17 {x0 : Int32} {x1 : Int32} {x2 : Value} (r2 : x2.isRef = true) (m : MethodId) : entryFrame m #[(.int x0), (.int x1), x2] 3 = mkF m 0 #[.val (.int x0), .val (.int x1), .val x2] [] := by
  rcases ref_cases r2 with rfl | ⟨q2, rfl⟩ <;> first | rfl | (simp [entryFrame, mkF, argsToLocals, Value.category, maxLocals]; done)
abbrev y27 : MethodName := ⟨"jdk/internal/util/Preconditions", "checkIndex", "(IILjava/util/function/BiFunction;)I"⟩
theorem B28 : BI y27 "jdk/internal/util/Preconditions" "checkIndex" := ⟨(plainFor_of_name pn_jdk_internal_util_Preconditions), rfl, rfl⟩
abbrev c28 := jdk_41_method_11_code
theorem d28_0 : DC c28 0 (.iload_n 0) 1 := by decide +kernel
theorem d28_1 : DC c28 1 (.ifCond .lt 8) 3 := by decide +kernel
theorem d28_4 : DC c28 4 (.iload_n 0) 1 := by decide +kernel
theorem d28_5 : DC c28 5 (.iload_n 1) 1 := by decide +kernel
theorem d28_6 : DC c28 6 (.if_icmp .lt 10) 3 := by decide +kernel
theorem d28_16 : DC c28 16 (.iload_n 0) 1 := by decide +kernel
theorem d28_17 : DC c28 17 .ireturn 1 := by decide +kernel
abbrev M28 := MM y27 c28 3 (some .int)
theorem pd_22 : parseMethodDescriptor "(IILjava/util/function/BiFunction;)I" = some ⟨[.int, .int, (.object "java/util/function/BiFunction")], (some .int)⟩ := by decide +kernel
def u26 : WS_static Z a0 "java/lang/String" 1059 y27 c28 3 (some .int) 3 := ⟨(w130 G), (w131 G), (w89 G), (w132 G), by decide +kernel, lenN pd_22 rfl⟩
theorem d27_8 : DC c27 8 .pop 1 := by decide +kernel
theorem d27_9 : DC c27 9 .return_ 1 := by decide +kernel
abbrev M27 := MM y26 c27 2 none
def u27 : WS_static Z a0 "java/lang/StringLatin1" 9 y26 c27 2 none 2 := ⟨(w127 G), (w128 G), (w8 G), (w129 G), by decide +kernel, lenN pd_19 rfl⟩
theorem d26_6 : DC c26 6 (.aload_n 0) 1 := by decide +kernel
theorem d26_7 : DC c26 7 (.iload_n 1) 1 := by decide +kernel
theorem d26_8 : DC c26 8 .baload 1 := by decide +kernel
theorem d26_9 : DC c26 9 (.sipush 255) 3 := by decide +kernel
theorem d26_12 : DC c26 12 .iand 1 := by decide +kernel
theorem d26_13 : DC c26 13 .i2c 1 := by decide +kernel
theorem d26_14 : DC c26 14 .ireturn 1 := by decide +kernel
abbrev M26 := MM y25 c26 2 (some .char)
theorem pd_23 : parseMethodDescriptor "([BI)C" = some ⟨[(.array .byte), .int], (some .char)⟩ := by decide +kernel
def u28 : WS_static Z a0 "java/lang/String" 495 y25 c26 2 (some .char) 2 := ⟨(w124 G), (w125 G), (w66 G), (w126 G), by decide +kernel, lenN pd_23 rfl⟩
theorem d25_15 : DC c25 15 .ireturn 1 := by decide +kernel
abbrev M25 := MM y24 c25 2 (some .char)
def u29 : WS_virtual Z a0 "com/example/web_whiteboard/webwhiteboard/context/ServletPatternExtensionPinLaw" 29 "java/lang/String" y24 y24 c25 2 (some .char) 1 := ⟨(w123 G), (w8 G), (w119 G), (w120 G), (w122 G), (w121 G), (nf_sel (w122 G)), by decide +kernel, lenN pd_0 rfl⟩
end Words
variable {h0 : Heap} {n0 : Nat} {pa1 pa2 : Addr} {pi1 pi100 pi101 pi102 pi103 pi2 pi3 pi4 pi5 : Int32} {pk1 pk2 : ClassId} {ps_pa1 ps_pa2 : List Value}
def Q0 (Z : State) (h0 : Heap) (v : Option Value) (h : Heap) (vm : Vm) : Prop := ∃ (xi1 : Int32), v = some (.int xi1) ∧ ¬ xi1 < 0 ∧ ¬ (255 : Int32) < xi1
theorem rm_draw (G : GL l Z a0 zc fmt)  : M0 l Z 0 0 0 0 #[.int pi1] h0 n0 [] [] (Q0 Z  h0) := by
  refine mi B0 ef0 (hEW G) fun s X0 hsf0 n0le => ?_
  refine oI 1 X0 d0_0 rfl rfl <| oc 2 (v := 3) X0 d0_1 rfl (by decide) <| o_iand 3 (v := (pi1 &&& (3 : Int32))) X0 d0_2 rfl rfl <| oT 4 (l' := #[ii pi1, ii (pi1 &&& (3 : Int32))]) X0 d0_3 rfl rfl <| oI 5 X0 d0_4 rfl rfl ?_
  by_cases hc1 : (pi1 &&& (3 : Int32)) = (0 : Int32)
  · refine on 8 X0 d0_5 rfl ((if0 _ _).trans (teq hc1).2) <| ob 10 (v := 47) X0 d0_8 rfl (by decide) ?_
    exact o_nret (y := (47 : Int32)) (t := .char) X0 d0_10 rfl (by decide) (by simp) (by decide) (by decide) (fun _ CC => ⟨(47 : Int32), rfl, (by decide)⟩)
  · refine oy 11 X0 d0_5 (by decide) ((if0 _ _).trans (feq hc1).2) <| oI 12 X0 d0_11 rfl rfl <| oc 13 (v := 1) X0 d0_12 rfl (by decide) ?_
    by_cases hc2 : (pi1 &&& (3 : Int32)) = (1 : Int32)
    · refine oN 16 X0 d0_13 rfl (teq hc2).2 <| ob 18 (v := 46) X0 d0_16 rfl (by decide) ?_
      exact o_nret (y := (46 : Int32)) (t := .char) X0 d0_18 rfl (by decide) (by simp) (by decide) (by decide) (fun _ CC => ⟨(46 : Int32), rfl, (by decide)⟩)
    · refine oY 19 X0 d0_13 (by decide) (feq hc2).2 <| oI 20 X0 d0_19 rfl rfl <| oc 21 (v := 2) X0 d0_20 rfl (by decide) <| o_iushr 22 (v := ((pi1.toUInt32 >>> ((2 : Int32) &&& 31).toUInt32).toInt32)) X0 d0_21 rfl rfl <| o_sipush 25 (v := 255) X0 d0_22 rfl (by decide) <| o_iand 26 (v := (((pi1.toUInt32 >>> ((2 : Int32) &&& 31).toUInt32).toInt32) &&& (255 : Int32))) X0 d0_25 rfl rfl ?_
      obtain ⟨c3, ce4⟩ : ∃ z : Int32, (((pi1.toUInt32 >>> ((2 : Int32) &&& 31).toUInt32).toInt32) &&& (255 : Int32)).toUInt32.toUInt16.toUInt32.toInt32 = z := ⟨_, rfl⟩
      have cr5 := own_c255 _ _ ce4
      refine o_i2c 27 (v := c3) X0 d0_26 rfl ce4 ?_
      exact o_nret (y := c3) (t := .char) X0 d0_27 rfl (own_narC cr5) (by simp) (by decide) (by decide) (fun _ CC => ⟨c3, rfl, cr5⟩)
def Q1 (Z : State) (b1 : Addr) (b2 : ClassId) (h0 : Heap) (v : Option Value) (h : Heap) (vm : Vm) : Prop := v = some (.int 1) ∧ av1 Z h b1 b2 1 [.int 47] ∧ ex0 Z h b1
theorem rm_au0 (G : GL l Z a0 zc fmt) (F0 : av0 Z h0 pa1 pk1 1 [.int 47]) (F1 : av1 Z h0 pa2 pk2 1 [i0]) (F2 : ex0 Z h0 pa2) (ne : NE pa1 pa2 ∧ n0 ≤ pa2) : M5 l Z 0 0 0 0 #[.ref pa1, i0, .ref pa2, i0, .int 1] h0 n0 [pa2] [pa2] (Q1 Z pa2 pk2 h0) := by
  refine mi B5 ef5 (hEW G) fun s X0 hsf0 n0le => ?_
  have := F0.l
  have := F1.l
  have sf_pa2 := hsf0 pa2 (by simp)
  refine oc 1 (v := 0) X0 d5_0 rfl (by decide) <| oS 3 (l' := #[rr pa1, ii 0, rr pa2, ii 0, ii 1, ii 0, uu]) X0 d5_1 rfl rfl <| oi 5 X0 d5_3 rfl rfl <| oi 7 X0 d5_5 rfl rfl <| oN 10 X0 d5_7 rfl (tlt (by decide)).2.1 <| oA 11 X0 d5_10 rfl rfl <| oI 12 X0 d5_11 rfl rfl <| oC 13 (v := (.int 47)) X0 F0 ⟨by decide, by decide⟩ rfl d5_12 rfl <| oS 15 (l' := #[rr pa1, ii 0, rr pa2, ii 0, ii 1, ii 0, ii 47]) X0 d5_13 rfl rfl <| oi 17 X0 d5_15 rfl rfl <| o_sipush 20 (v := 255) X0 d5_17 rfl (by decide) <| oY 26 X0 d5_20 (by decide) (flt (by decide)).2.2.2 ?_
  refine oA 27 X0 d5_26 rfl rfl <| oI 28 X0 d5_27 rfl rfl <| oi 30 X0 d5_28 rfl rfl <| o_i2b 31 (v := 47) X0 d5_30 rfl (by decide) <| sB 32 0 47 X0 F1 (by decide) (lb rfl) (by decide) d5_31 rfl (by omega) (Or.inl (by simp)) sf_pa2 ?_
  rintro _ _ X1 ⟨_, _, W1⟩ _ V1
  have := W1.size
  have V2 := V1.as [.int 47] rfl
  refine oJ 35 1 #[rr pa1, ii 1, rr pa2, ii 0, ii 1, ii 0, ii 47] X1 d5_32 rfl rfl (by decide) rfl <| oJ 38 1 #[rr pa1, ii 1, rr pa2, ii 1, ii 1, ii 0, ii 47] X1 d5_35 rfl rfl (by decide) rfl <| oJ 41 1 #[rr pa1, ii 1, rr pa2, ii 1, ii 1, ii 1, ii 47] X1 d5_38 rfl rfl (by decide) rfl <| og 3 X1 d5_41 (by decide) <| oi 5 X1 d5_3 rfl rfl <| oi 7 X1 d5_5 rfl rfl <| oY 44 X1 d5_7 (by decide) (flt (by decide)).2.1 <| oi 46 X1 d5_44 rfl rfl ?_
  have f3 := F2.wr W1
  exact o_iret X1 d5_46 rfl (by decide) (by decide) (fun _ CC => ⟨rfl, V2, f3⟩)
def Q2 (Z : State) (h0 : Heap) (v : Option Value) (h : Heap) (vm : Vm) : Prop := ∃ (xa1 : Addr) (xk1 : ClassId), v = some (.ref xa1) ∧ av1 Z h xa1 xk1 1 [.int 47] ∧ ex0 Z h xa1 ∧ Safe Z EL0 vm h xa1 ∧ h0.size ≤ xa1 ∧ h.size > xa1
theorem rm_au1 (G : GL l Z a0 zc fmt) (F0 : av0 Z h0 pa1 pk1 1 [.int 47]) : M4 l Z 1 1 1 18 #[.ref pa1, i0, .int 1] h0 n0 [] [] (Q2 Z  h0) := by
  refine mi B4 ef4 (hEW G) fun s X0 hsf0 n0le => ?_
  have l1 := F0.l
  refine oI 1 X0 d4_0 rfl rfl <| nP (aty := .byte) 3 1 X0 (w24 G) d4_1 rfl (by decide) had_byte ?_
  intro _ h1 b1 k1 X1 _ l1 E1 V1 A1 _ S1
  have V2 : av1 Z h1 b1 k1 1 [i0] := V1.pad (pad_rep [] (.int (0 : Int32)) 1)
  refine oV 4 (l' := #[rr pa1, ii 0, ii 1, rr b1, uu, uu]) X1 d4_3 rfl rfl rfl <| oA 5 X1 d4_4 rfl rfl <| oI 6 X1 d4_5 rfl rfl <| oA 7 X1 d4_6 rfl rfl <| oc 8 (v := 0) X1 d4_7 rfl (by decide) <| oI 9 X1 d4_8 rfl rfl ?_
  have f3 := F0.ext E1
  refine mS 12 0 X1 (rm_au0 G f3 V2 A1 (by omega)) (u1 G) (sS (by omega) S1 all0) d4_9 rfl rfl rfl lr (by decide) (aR (by omega) all0) ?_
  rintro _ _ _ _ X4 ⟨rfl, q5, q6⟩ _ _ C4
  refine sk [.int 1] rfl <| oS 14 (l' := #[rr pa1, ii 0, ii 1, rr b1, ii 1, uu]) X4 d4_12 rfl rfl <| oi 16 X4 d4_14 rfl rfl <| oI 17 X4 d4_16 rfl rfl <| oY 57 X4 d4_17 (by decide) (teq (by decide)).1 <| oA 58 X4 d4_57 rfl rfl ?_
  have f7 := C4.safe (own_lt (by omega)) S1
  exact oR X4 d4_58 rfl rfl rfl (by decide) (by decide) (fun _ CC => ⟨b1, k1, rfl, q5, q6, (CC.safe (own_lt (by omega)) f7), by omega⟩)
def Q3 (Z : State) (h0 : Heap) (v : Option Value) (h : Heap) (vm : Vm) : Prop := v = some (.int 0)
theorem rm_au2 (G : GL l Z a0 zc fmt) (F0 : av1 Z h0 pa1 pk1 1 ps_pa1) : M6 l Z 0 0 0 0 #[.ref pa1, .int 1] h0 n0 [] [] (Q3 Z  h0) := by
  refine mi B6 ef6 (hEW G) fun s X0 hsf0 n0le => ?_
  have := F0.l
  refine oI 1 X0 d6_0 rfl rfl <| oA 2 X0 d6_1 rfl rfl <| oL 3 X0 F0 d6_2 rfl <| o_isub 4 (v := 0) X0 d6_3 rfl (by decide) <| ob 6 (v := 31) X0 d6_4 rfl (by decide) <| o_iushr 7 (v := 0) X0 d6_6 rfl (by decide) <| o_i2b 8 (v := 0) X0 d6_7 rfl (by decide) ?_
  exact o_nret (y := (0 : Int32)) (t := .byte) X0 d6_8 rfl (by decide) (by simp) (by decide) (by decide) (fun _ CC => rfl)
def Q4 (Z : State) (b1 : Addr) (h0 : Heap) (v : Option Value) (h : Heap) (vm : Vm) : Prop := ∃ (xa1 : Addr) (xk1 : ClassId), v = none ∧ ex1 Z h b1 ∧ fd0 Z h b1 (.int 0) ∧ fd1 Z h b1 (.ref xa1) ∧ av1 Z h xa1 xk1 1 [.int 47] ∧ ex0 Z h xa1 ∧ Safe Z EL0 vm h xa1 ∧ h0.size ≤ xa1 ∧ h.size > xa1
theorem rm_au3 (G : GL l Z a0 zc fmt) (F0 : ex1 Z h0 pa1) (F1 : fd0 Z h0 pa1 (.int 0)) (F2 : fd1 Z h0 pa1 .null) (F3 : av0 Z h0 pa2 pk1 1 [.int 47]) (ne : NE pa1 pa2 ∧ n0 ≤ pa1) : M3 l Z 2 1 1 35 #[.ref pa1, .ref pa2, i0, .int 1, .null] h0 n0 [pa1] [pa1] (Q4 Z pa1 h0) := by
  refine mi B3 ef3 (hEW G) fun s X0 hsf0 n0le => ?_
  have := F0.l
  have := F3.l
  have sf_pa1 := hsf0 pa1 (by simp)
  refine oA 1 X0 d3_0 rfl rfl <| o_initO 4 (W := 0) X0 (w16 G) (w17 G) (w18 G) rfl (by decide) (Nat.le_of_eq rfl) (by decide) d3_1 rfl ?_
  intro _ X2
  refine oI 5 X2 d3_4 rfl rfl <| oy 27 X2 d3_5 (by decide) ((if0 _ _).trans (feq (by decide)).2) <| oG 30 X2 (w19 G) Via.refl ((sg1 G).ext X2.old.2) d3_27 rfl ?_
  intro _ X4
  refine on 33 X4 d3_30 rfl ((if0 _ _).trans (feq (hzc G)).1) <| oA 34 X4 d3_33 rfl rfl <| oI 35 X4 d3_34 rfl rfl <| oI 36 X4 d3_35 rfl rfl <| mS 39 0 X4 (rm_au1 G F3) (u2 G) all0 d3_36 rfl rfl rfl lr (by decide) all0 ?_
  rintro _ _ _ _ X5 ⟨xa1_6, xk1_7, rfl, q8, q9, q10, _⟩ K5 _ C5
  refine sk [.ref xa1_6] rfl <| oU 41 (l' := #[rr pa1, rr pa2, ii 0, ii 1, .val .null, rr xa1_6]) X5 d3_39 rfl rfl rfl <| oA 42 X5 d3_41 rfl rfl <| oa 44 X5 d3_42 rfl rfl <| oI 45 X5 d3_44 rfl rfl <| mS 48 1 X5 (rm_au2 G q8) (u3 G) all0 d3_45 rfl rfl rfl lr (by decide) all0 ?_
  rintro _ _ _ _ X12 rfl K12 _ C12
  refine sk [i0, .ref pa1] rfl ?_
  have f13 := (F1.k0 K5).k0 K12
  have f14 := (F0.keep K5).keep K12
  have f16 := C12.safe (own_lt (by omega)) (C5.safe (own_lt (by omega)) sf_pa1)
  refine oP 51 (v' := (.int 0)) X12 (w31 G) Via.refl f13 f14 (Or.inr ⟨(w32 G), rfl, rfl⟩) (w7 G) fd_0 rfl rfl d3_48 rfl (by omega) (Or.inl (by simp)) f16 ?_
  intro _ _ X15 W15 C15
  have := W15.size
  have f17 := f13.same W15
  refine oA 52 X15 d3_51 rfl rfl <| oa 54 X15 d3_52 rfl rfl ?_
  have f18 := ((F2.k0 K5).k0 K12).other W15 (Or.inr (sn0 G))
  have f19 := f14.wr W15
  have f21 := C15.safe (own_lt (by omega)) f16
  refine oP 57 (v' := (.ref xa1_6)) X15 (w33 G) Via.refl f18 f19 (Or.inr ⟨(w34 G), rfl, rfl⟩) (w7 G) fd_1 rfl rfl d3_54 rfl (by omega) (Or.inl (by simp)) f21 ?_
  intro _ _ X20 W20 C20
  have := W20.size
  have f22 := f18.same W20
  have f23 := f19.wr W20
  have f24 := f17.other W20 (Or.inr (sn1 G))
  have f25 := ((q8.k0 K12).oth W15 (by omega)).oth W20 (by omega)
  have f26 := ((q9.keep K12).wr W15).wr W20
  have f27 := C20.safe (own_lt (by omega)) (C15.safe (own_lt (by omega)) (C12.safe (own_lt (by omega)) q10))
  exact oz X20 d3_57 rfl (by decide) (by decide) (fun _ CC => ⟨xa1_6, xk1_7, rfl, f23, f24, f22, f25, f26, (CC.safe (own_lt (by omega)) f27), by omega⟩)
theorem rm_au4 (G : GL l Z a0 zc fmt) (F0 : ex1 Z h0 pa1) (F1 : fd0 Z h0 pa1 (.int 0)) (F2 : fd1 Z h0 pa1 .null) (F3 : av0 Z h0 pa2 pk1 1 [.int 47]) (ne : NE pa1 pa2 ∧ n0 ≤ pa1) : M2 l Z 3 1 1 52 #[.ref pa1, .ref pa2] h0 n0 [pa1] [pa1] (Q4 Z pa1 h0) := by
  refine mi B2 ef2 (hEW G) fun s X0 hsf0 n0le => ?_
  have := F0.l
  have := F3.l
  have sf_pa1 := hsf0 pa1 (by simp)
  refine oA 1 X0 d2_0 rfl rfl <| oA 2 X0 d2_1 rfl rfl <| oc 3 (v := 0) X0 d2_2 rfl (by decide) <| oA 4 X0 d2_3 rfl rfl <| oL 5 X0 F3 d2_4 rfl <| o_aconstNull 6 X0 d2_5 rfl <| mP 9 0 X0 (rm_au3 G F0 F1 F2 F3 (by omega)) (u4 G) (sS (by omega) sf_pa1 all0) d2_6 rfl rfl rfl lr (by decide) (aI (by omega) (by simp) all0) ?_
  rintro _ _ _ _ X1 ⟨xa1_2, xk1_3, rfl, q4, q5, q6, q7, q8, q9, _⟩ _ _ _
  refine sk [] rfl ?_
  exact oz X1 d2_9 rfl (by decide) (by decide) (fun _ CC => ⟨xa1_2, xk1_3, rfl, q4, q5, q6, q7, q8, (CC.safe (own_lt (by omega)) q9), by omega⟩)
theorem rm_au5 (G : GL l Z a0 zc fmt) (F0 : fd0 Z h0 pa1 (.int 0)) : M10 l Z 0 0 0 0 #[.ref pa1] h0 n0 [] [] (Q3 Z  h0) := by
  refine mi B10 ef8 (hEW G) fun s X0 hsf0 n0le => ?_
  have := F0.l
  refine oG 3 X0 (w19 G) Via.refl ((sg1 G).ext X0.old.2) d10_0 rfl ?_
  intro _ X2
  refine on 6 X2 d10_3 rfl ((if0 _ _).trans (feq (hzc G)).1) <| oA 7 X2 d10_6 rfl rfl <| oF 10 X2 (w31 G) Via.refl F0 d10_7 rfl ?_
  intro _ X4
  refine og 14 X4 d10_10 (by decide) ?_
  exact o_nret (y := (0 : Int32)) (t := .byte) X4 d10_14 rfl (by decide) (by simp) (by decide) (by decide) (fun _ CC => rfl)
def Q5 (Z : State) (h0 : Heap) (v : Option Value) (h : Heap) (vm : Vm) : Prop := v = some (.int 1)
theorem rm_au6 (G : GL l Z a0 zc fmt) (F0 : ex1 Z h0 pa1) (F1 : fd0 Z h0 pa1 (.int 0)) (F2 : fd1 Z h0 pa1 (.ref pa2)) (F3 : av1 Z h0 pa2 pk1 1 ps_pa2) : M9 l Z 1 0 0 13 #[.ref pa1] h0 n0 [] [] (Q5 Z  h0) := by
  refine mi B9 ef8 (hEW G) fun s X0 hsf0 n0le => ?_
  have := F0.l
  have := F3.l
  refine oA 1 X0 d9_0 rfl rfl <| oF 4 X0 (w33 G) Via.refl F2 d9_1 rfl ?_
  intro _ X2
  refine oL 5 X2 F3 d9_4 rfl <| oA 6 X2 d9_5 rfl rfl <| mV 9 1 X2 F0 (rm_au5 G F1) (u6 G) all0 d9_6 rfl rfl rfl lr (by decide) all0 ?_
  rintro _ _ _ _ X3 rfl _ _ _
  refine sk [i0, .int 1] rfl <| o_ishr 10 (v := 1) X3 d9_9 rfl (by decide) ?_
  exact o_iret X3 d9_10 rfl (by decide) (by decide) (fun _ CC => rfl)
theorem rm_au7 (G : GL l Z a0 zc fmt) (F0 : fd0 Z h0 pa1 (.int pi1)) (pc_0 : pi1 = (0 : Int32)) : M12 l Z 0 0 0 0 #[.ref pa1] h0 n0 [] [] (Q5 Z  h0) := by
  refine mi B12 ef8 (hEW G) fun s X0 hsf0 n0le => ?_
  have := F0.l
  refine oG 3 X0 (w19 G) Via.refl ((sg1 G).ext X0.old.2) d12_0 rfl ?_
  intro _ X2
  refine on 6 X2 d12_3 rfl ((if0 _ _).trans (feq (hzc G)).1) <| oA 7 X2 d12_6 rfl rfl <| oF 10 X2 (w31 G) Via.refl F0 d12_7 rfl ?_
  intro _ X4
  refine on 13 X4 d12_10 rfl ((if0 _ _).trans (teq pc_0).2) <| oc 14 (v := 1) X4 d12_13 rfl (by decide) <| og 18 X4 d12_14 (by decide) ?_
  exact o_nret (y := (1 : Int32)) (t := .boolean) X4 d12_18 rfl (by decide) (by simp) (by decide) (by decide) (fun _ CC => rfl)
theorem rm_au8 (G : GL l Z a0 zc fmt) (pc_0 : ¬ pi1 < (0 : Int32)) (pc_1 : ¬ (255 : Int32) < pi1) : M14 l Z 0 0 0 0 #[.int pi1] h0 n0 [] [] (Q5 Z  h0) := by
  refine mi B14 ef11 (hEW G) fun s X0 hsf0 n0le => ?_
  refine oI 1 X0 d14_0 rfl rfl <| on 4 X0 d14_1 rfl ((if0 _ _).trans (flt pc_0).1) <| oI 5 X0 d14_4 rfl rfl <| o_sipush 8 (v := 255) X0 d14_5 rfl (by decide) <| oN 11 X0 d14_8 rfl (flt pc_1).2.2.1 <| oc 12 (v := 1) X0 d14_11 rfl (by decide) <| og 16 X0 d14_12 (by decide) ?_
  exact o_nret (y := (1 : Int32)) (t := .boolean) X0 d14_16 rfl (by decide) (by simp) (by decide) (by decide) (fun _ CC => rfl)
def Q6 (Z : State) (b1 : Int32) (h0 : Heap) (v : Option Value) (h : Heap) (vm : Vm) : Prop := v = some (.int b1)
theorem rm_au9 (G : GL l Z a0 zc fmt) (pc_0 : ¬ pi2 < pi1) : M15 l Z 0 0 0 0 #[.int pi1, .int pi2] h0 n0 [] [] (Q6 Z pi1 h0) := by
  refine mi B15 ef12 (hEW G) fun s X0 hsf0 n0le => ?_
  refine oI 1 X0 d15_0 rfl rfl <| oI 2 X0 d15_1 rfl rfl <| oN 5 X0 d15_2 rfl (flt pc_0).2.2.1 <| oI 6 X0 d15_5 rfl rfl <| og 10 X0 d15_6 (by decide) ?_
  exact o_iret X0 d15_10 rfl (by decide) (by decide) (fun _ CC => rfl)
theorem rm_au10 (G : GL l Z a0 zc fmt) (F0 : av1 Z h0 pa1 pk1 1 [.int pi1]) (pc_0 : pi1 = (47 : Int32)) : M13 l Z 1 0 0 13 #[.ref pa1, .int 47, i0] h0 n0 [] [] (Q3 Z  h0) := by
  refine mi B13 ef10 (hEW G) fun s X0 hsf0 n0le => ?_
  have := F0.l
  refine oI 1 X0 d13_0 rfl rfl <| mS 4 0 X0 (rm_au8 G (by decide) (by decide)) (u9 G) all0 d13_1 rfl rfl rfl lr (by decide) all0 ?_
  rintro _ _ _ _ X1 rfl K1 _ _
  refine sk [.int 1] rfl <| oy 9 X1 d13_4 (by decide) ((if0 _ _).trans (feq (by decide)).2) <| oI 10 X1 d13_9 rfl rfl <| oA 11 X1 d13_10 rfl rfl ?_
  have f2 := F0.k0 K1
  refine oL 12 X1 f2 d13_11 rfl <| oc 13 (v := 1) X1 d13_12 rfl (by decide) <| o_isub 14 (v := 0) X1 d13_13 rfl (by decide) <| mS 17 0 X1 (rm_au9 G (by decide)) (u10 G) all0 d13_14 rfl rfl rfl lr (by decide) all0 ?_
  rintro _ _ _ _ X3 rfl K3 _ _
  refine sk [i0] rfl <| oT 18 (l' := #[rr pa1, ii 47, ii 0, ii 0]) X3 d13_17 rfl rfl <| oI 19 X3 d13_18 rfl rfl <| on 22 X3 d13_19 rfl ((if0 _ _).trans (flt (by decide)).1) <| oA 23 X3 d13_22 rfl rfl <| oI 24 X3 d13_23 rfl rfl ?_
  have f4 := f2.k0 K3
  refine oB 25 (v := (.int pi1)) X3 f4 ⟨by decide, by decide⟩ rfl d13_24 rfl <| oI 26 X3 d13_25 rfl rfl <| o_i2b 27 (v := 47) X3 d13_26 rfl (by decide) <| oN 30 X3 d13_27 rfl (teq pc_0).2 <| oI 31 X3 d13_30 rfl rfl ?_
  exact o_iret X3 d13_31 rfl (by decide) (by decide) (fun _ CC => rfl)
theorem rm_au11 (G : GL l Z a0 zc fmt) (F0 : ex1 Z h0 pa1) (F1 : fd0 Z h0 pa1 (.int 0)) (F2 : fd1 Z h0 pa1 (.ref pa2)) (F3 : av1 Z h0 pa2 pk1 1 [.int pi1]) (pc_0 : pi1 = (47 : Int32)) : M11 l Z 2 0 0 28 #[.ref pa1, .int 47, i0] h0 n0 [] [] (Q3 Z  h0) := by
  refine mi B11 ef9 (hEW G) fun s X0 hsf0 n0le => ?_
  have := F0.l
  have := F3.l
  refine oA 1 X0 d11_0 rfl rfl <| mV 4 0 X0 F0 (rm_au7 G F1 (by decide)) (u8 G) all0 d11_1 rfl rfl rfl lr (by decide) all0 ?_
  rintro _ _ _ _ X1 rfl K1 _ _
  refine sk [.int 1] rfl <| on 7 X1 d11_4 rfl ((if0 _ _).trans (feq (by decide)).1) <| oA 8 X1 d11_7 rfl rfl ?_
  have f2 := F2.k0 K1
  refine oF 11 X1 (w33 G) Via.refl f2 d11_8 rfl ?_
  intro _ X4
  refine oI 12 X4 d11_11 rfl rfl <| oI 13 X4 d11_12 rfl rfl ?_
  have f5 := F3.k0 K1
  refine mS 16 0 X4 (rm_au10 G f5 pc_0) (u11 G) all0 d11_13 rfl rfl rfl lr (by decide) all0 ?_
  rintro _ _ _ _ X6 rfl _ _ _
  refine sk [i0] rfl <| og 28 X6 d11_16 (by decide) ?_
  exact o_iret X6 d11_28 rfl (by decide) (by decide) (fun _ CC => rfl)
theorem rm_au12 (G : GL l Z a0 zc fmt) (F0 : ex1 Z h0 pa1) (F1 : fd0 Z h0 pa1 (.int 0)) (F2 : fd1 Z h0 pa1 (.ref pa2)) (F3 : av1 Z h0 pa2 pk1 1 [.int pi1]) (pc_0 : pi1 = (47 : Int32)) : M8 l Z 3 0 0 42 #[.ref pa1, .int 47] h0 n0 [] [] (Q3 Z  h0) := by
  refine mi B8 ef6 (hEW G) fun s X0 hsf0 n0le => ?_
  have := F0.l
  have := F3.l
  refine oA 1 X0 d8_0 rfl rfl <| oI 2 X0 d8_1 rfl rfl <| oA 3 X0 d8_2 rfl rfl <| mV 6 2 X0 F0 (rm_au6 G F0 F1 F2 F3) (u7 G) all0 d8_3 rfl rfl rfl lr (by decide) all0 ?_
  rintro _ _ _ _ X1 rfl K1 _ _
  refine sk [.int 1, .int 47, .ref pa1] rfl <| oc 7 (v := 1) X1 d8_6 rfl (by decide) <| o_isub 8 (v := 0) X1 d8_7 rfl (by decide) ?_
  have f2 := F0.keep K1
  have f3 := F1.k0 K1
  have f4 := F2.k0 K1
  have f5 := F3.k0 K1
  refine mV 11 0 X1 f2 (rm_au11 G f2 f3 f4 f5 pc_0) (u12 G) all0 d8_8 rfl rfl rfl lr (by decide) all0 ?_
  rintro _ _ _ _ X6 rfl _ _ _
  refine sk [i0] rfl ?_
  exact o_iret X6 d8_11 rfl (by decide) (by decide) (fun _ CC => rfl)
theorem rm_au13 (G : GL l Z a0 zc fmt) (pc_0 : ¬ pi1 < (0 : Int32)) (pc_1 : ¬ pi2 < pi1) (pc_2 : ¬ pi3 < pi2) (r_fmt : fmt.isRef = true) : M19 l Z 0 0 0 0 #[.int pi1, .int pi2, .int pi3, fmt] h0 n0 [] [] (Q6 Z pi1 h0) := by
  refine mi B19 (ef15 r_fmt) (hEW G) fun s X0 hsf0 n0le => ?_
  refine oI 1 X0 d19_0 rfl rfl <| on 4 X0 d19_1 rfl ((if0 _ _).trans (flt pc_0).1) <| oI 5 X0 d19_4 rfl rfl <| oI 6 X0 d19_5 rfl rfl <| oN 9 X0 d19_6 rfl (flt pc_1).2.2.1 <| oI 10 X0 d19_9 rfl rfl <| oI 11 X0 d19_10 rfl rfl <| oY 22 X0 d19_11 (by decide) (flt pc_2).2.2.2 <| oI 23 X0 d19_22 rfl rfl ?_
  exact o_iret X0 d19_23 rfl (by decide) (by decide) (fun _ CC => rfl)
def Q7 (Z : State) (h0 : Heap) (v : Option Value) (h : Heap) (vm : Vm) : Prop := v = none
theorem rm_au14 (G : GL l Z a0 zc fmt) (pc_0 : ¬ pi100 < (0 : Int32)) (pc_1 : ¬ pi101 < pi100) (pc_2 : ¬ pi102 < pi101) : M18 l Z 1 0 0 15 #[.int pi100, .int pi101, .int pi102] h0 n0 [] [] (Q7 Z  h0) := by
  refine mi B18 ef14 (hEW G) fun s X0 hsf0 n0le => ?_
  refine oI 1 X0 d18_0 rfl rfl <| oI 2 X0 d18_1 rfl rfl <| oI 3 X0 d18_2 rfl rfl <| oG 6 X0 (w88 G) Via.refl ((sg0 G).ext X0.old.2) d18_3 rfl ?_
  intro _ X2
  refine mS 9 0 X2 (rm_au13 G pc_0 pc_1 pc_2 (hfmt G)) (u14 G) all0 d18_6 rfl rfl rfl lr (by decide) all0 ?_
  rintro _ _ _ _ X3 rfl _ _ _
  refine sk [.int pi100] rfl <| o_pop 10 X3 d18_9 rfl rfl ?_
  exact oz X3 d18_10 rfl (by decide) (by decide) (fun _ CC => rfl)
def Q8 (Z : State) (h0 : Heap) (v : Option Value) (h : Heap) (vm : Vm) : Prop := ∃ (xa1 : Addr) (xa2 : Addr) (xk1 : ClassId), v = some (.ref xa1) ∧ ex1 Z h xa1 ∧ fd0 Z h xa1 (.int 0) ∧ fd1 Z h xa1 (.ref xa2) ∧ av1 Z h xa2 xk1 0 [] ∧ h.size > xa1 ∧ h.size > xa2
theorem rm_au15 (G : GL l Z a0 zc fmt) (F0 : ex0 Z h0 pa1) (pc_0 : pi102 = (0 : Int32)) : M20 l Z 0 2 4 0 #[.ref pa1, .int pi101, .int pi102] h0 n0 [] [] (Q8 Z  h0) := by
  have hw := G.1
  refine mi B20 ef9 (hEW G) fun s X0 hsf0 n0le => ?_
  have := F0.l
  refine oI 1 X0 d20_0 rfl rfl <| on 4 X0 d20_1 rfl ((if0 _ _).trans (teq pc_0).2) <| o_ldcC 6 (n := 0) (vs := own_bs ([] : List Int32)) (z := (0 : Int32)) X0 (w96 G) (hws_str hw) (by decide) ⟨by decide, rfl⟩ (by decide) (by decide) d20_4 rfl (by decide) (by decide) (by decide) (by decide) ?_
  intro a1 b1 kb1 _ h1 _ X1 E1 _ Es1 Cs1 Vs1 As1 _
  have lta1 : h1.size > a1 := Es1.lt
  have ltb1 : h1.size > b1 := As1.lt
  have := E1.1
  have Bs1 : av1 Z h1 b1 kb1 0 [] := As1
  exact oR X1 d20_6 rfl rfl rfl (by decide) (by decide) (fun _ CC => ⟨a1, b1, kb1, rfl, Es1, Cs1, Vs1, Bs1, by omega⟩)
theorem rm_au16 (G : GL l Z a0 zc fmt) (F0 : ex1 Z h0 pa1) (F1 : fd0 Z h0 pa1 (.int 0)) (F2 : fd1 Z h0 pa1 (.ref pa2)) (F3 : av1 Z h0 pa2 pk1 1 ps_pa2) (F4 : ex0 Z h0 pa2) : M17 l Z 2 2 4 29 #[.ref pa1, .int 1, .int 1] h0 n0 [] [] (Q8 Z  h0) := by
  refine mi B17 ef13 (hEW G) fun s X0 hsf0 n0le => ?_
  have := F0.l
  have := F3.l
  refine oA 1 X0 d17_0 rfl rfl <| mV 4 0 X0 F0 (rm_au6 G F0 F1 F2 F3) (u7 G) all0 d17_1 rfl rfl rfl lr (by decide) all0 ?_
  rintro _ _ _ _ X1 rfl K1 _ _
  refine sk [.int 1] rfl <| oT 5 (l' := #[rr pa1, ii 1, ii 1, ii 1, uu]) X1 d17_4 rfl rfl <| oI 6 X1 d17_5 rfl rfl <| oI 7 X1 d17_6 rfl rfl <| oI 8 X1 d17_7 rfl rfl <| mS 11 0 X1 (rm_au14 G (by decide) (by decide) (by decide)) (u15 G) all0 d17_8 rfl rfl rfl lr (by decide) all0 ?_
  rintro _ _ _ _ X2 rfl K2 _ _
  refine sk [] rfl <| oI 12 X2 d17_11 rfl rfl <| oy 22 X2 d17_12 (by decide) ((if0 _ _).trans (feq (by decide)).2) <| oI 23 X2 d17_22 rfl rfl <| oI 24 X2 d17_23 rfl rfl <| o_isub 25 (v := 0) X2 d17_24 rfl (by decide) <| oS 27 (l' := #[rr pa1, ii 1, ii 1, ii 1, ii 0]) X2 d17_25 rfl rfl <| oA 28 X2 d17_27 rfl rfl ?_
  have f3 := (F1.k0 K1).k0 K2
  have f4 := (F0.keep K1).keep K2
  refine mV 31 0 X2 f4 (rm_au7 G f3 (by decide)) (u8 G) all0 d17_28 rfl rfl rfl lr (by decide) all0 ?_
  rintro _ _ _ _ X5 rfl K5 _ _
  refine sk [.int 1] rfl <| on 34 X5 d17_31 rfl ((if0 _ _).trans (feq (by decide)).1) <| oA 35 X5 d17_34 rfl rfl ?_
  have f6 := ((F2.k0 K1).k0 K2).k0 K5
  refine oF 38 X5 (w33 G) Via.refl f6 d17_35 rfl ?_
  intro _ X8
  refine oI 39 X8 d17_38 rfl rfl <| oi 41 X8 d17_39 rfl rfl ?_
  have f9 := ((F4.keep K1).keep K2).keep K5
  refine mS 44 0 X8 (rm_au15 G f9 (by decide)) (u16 G) all0 d17_41 rfl rfl rfl lr (by decide) all0 ?_
  rintro _ _ _ _ X10 ⟨xa1_11, xa2_12, xk1_13, rfl, q14, q15, q16, q17, _⟩ _ _ _
  refine sk [.ref xa1_11] rfl <| og 57 X10 d17_44 (by decide) ?_
  exact oR X10 d17_57 rfl rfl rfl (by decide) (by decide) (fun _ CC => ⟨xa1_11, xa2_12, xk1_13, rfl, q14, q15, q16, q17, by omega⟩)
theorem rm_au17 (G : GL l Z a0 zc fmt) (F0 : ex1 Z h0 pa1) (F1 : fd0 Z h0 pa1 (.int 0)) (F2 : fd1 Z h0 pa1 (.ref pa2)) (F3 : av1 Z h0 pa2 pk1 1 ps_pa2) (F4 : ex0 Z h0 pa2) : M16 l Z 3 2 4 45 #[.ref pa1, .int 1] h0 n0 [] [] (Q8 Z  h0) := by
  refine mi B16 ef6 (hEW G) fun s X0 hsf0 n0le => ?_
  have := F0.l
  have := F3.l
  refine oA 1 X0 d16_0 rfl rfl <| oI 2 X0 d16_1 rfl rfl <| oA 3 X0 d16_2 rfl rfl <| mV 6 2 X0 F0 (rm_au6 G F0 F1 F2 F3) (u7 G) all0 d16_3 rfl rfl rfl lr (by decide) all0 ?_
  rintro _ _ _ _ X1 rfl K1 _ _
  refine sk [.int 1, .int 1, .ref pa1] rfl ?_
  have f2 := F0.keep K1
  have f3 := F1.k0 K1
  have f4 := F2.k0 K1
  have f5 := F3.k0 K1
  have f6 := F4.keep K1
  refine mV 9 0 X1 f2 (rm_au16 G f2 f3 f4 f5 f6) (u17 G) all0 d16_6 rfl rfl rfl lr (by decide) all0 ?_
  rintro _ _ _ _ X7 ⟨xa1_8, xa2_9, xk1_10, rfl, q11, q12, q13, q14, _⟩ _ _ _
  refine sk [.ref xa1_8] rfl ?_
  exact oR X7 d16_9 rfl rfl rfl (by decide) (by decide) (fun _ CC => ⟨xa1_8, xa2_9, xk1_10, rfl, q11, q12, q13, q14, by omega⟩)
theorem rm_au18 (G : GL l Z a0 zc fmt) (F0 : ex1 Z h0 pa1) (F1 : fd0 Z h0 pa1 (.int 0)) (F2 : fd1 Z h0 pa1 (.ref pa2)) (F3 : av1 Z h0 pa2 pk1 0 ps_pa2) : M9 l Z 1 0 0 13 #[.ref pa1] h0 n0 [] [] (Q3 Z  h0) := by
  refine mi B9 ef8 (hEW G) fun s X0 hsf0 n0le => ?_
  have := F0.l
  have := F3.l
  refine oA 1 X0 d9_0 rfl rfl <| oF 4 X0 (w33 G) Via.refl F2 d9_1 rfl ?_
  intro _ X2
  refine oL 5 X2 F3 d9_4 rfl <| oA 6 X2 d9_5 rfl rfl <| mV 9 1 X2 F0 (rm_au5 G F1) (u6 G) all0 d9_6 rfl rfl rfl lr (by decide) all0 ?_
  rintro _ _ _ _ X3 rfl _ _ _
  refine sk [i0, i0] rfl <| o_ishr 10 (v := 0) X3 d9_9 rfl (by decide) ?_
  exact o_iret X3 d9_10 rfl (by decide) (by decide) (fun _ CC => rfl)
def Q9 (Z : State) (h0 : Heap) (v : Option Value) (h : Heap) (vm : Vm) : Prop := v = some (.int (-1))
theorem rm_au19 (G : GL l Z a0 zc fmt) (F0 : av1 Z h0 pa1 pk1 pi3 ps1) (pc_0 : ¬ pi1 < (0 : Int32)) (pc_1 : ¬ (255 : Int32) < pi1) (pc_2 : ¬ (pi3 - (1 : Int32)) < pi2) (pc_3 : pi2 < (0 : Int32)) : M13 l Z 1 0 0 13 #[.ref pa1, .int pi1, .int pi2] h0 n0 [] [] (Q9 Z  h0) := by
  refine mi B13 ef10 (hEW G) fun s X0 hsf0 n0le => ?_
  have := F0.l
  refine oI 1 X0 d13_0 rfl rfl <| mS 4 0 X0 (rm_au8 G pc_0 pc_1) (u9 G) all0 d13_1 rfl rfl rfl lr (by decide) all0 ?_
  rintro _ _ _ _ X1 rfl K1 _ _
  refine sk [.int 1] rfl <| oy 9 X1 d13_4 (by decide) ((if0 _ _).trans (feq (by decide)).2) <| oI 10 X1 d13_9 rfl rfl <| oA 11 X1 d13_10 rfl rfl ?_
  have f2 := F0.k0 K1
  refine oL 12 X1 f2 d13_11 rfl <| oc 13 (v := 1) X1 d13_12 rfl (by decide) <| o_isub 14 (v := (pi3 - (1 : Int32))) X1 d13_13 rfl rfl <| mS 17 0 X1 (rm_au9 G pc_2) (u10 G) all0 d13_14 rfl rfl rfl lr (by decide) all0 ?_
  rintro _ _ _ _ X3 rfl _ _ _
  refine sk [.int pi2] rfl <| oT 18 (l' := #[rr pa1, ii pi1, ii pi2, ii pi2]) X3 d13_17 rfl rfl <| oI 19 X3 d13_18 rfl rfl <| oy 38 X3 d13_19 (by decide) ((if0 _ _).trans (tlt pc_3).1) <| oc 39 (v := (-1)) X3 d13_38 rfl (by decide) ?_
  exact o_iret X3 d13_39 rfl (by decide) (by decide) (fun _ CC => rfl)
theorem rm_au20 (G : GL l Z a0 zc fmt) (F0 : ex1 Z h0 pa1) (F1 : fd0 Z h0 pa1 (.int pi102)) (F2 : fd1 Z h0 pa1 (.ref pa2)) (F3 : av1 Z h0 pa2 pk1 pi103 ps_pa2) (pc_0 : pi102 = (0 : Int32)) (pc_1 : ¬ pi100 < (0 : Int32)) (pc_2 : ¬ (255 : Int32) < pi100) (pc_3 : ¬ (pi103 - (1 : Int32)) < pi101) (pc_4 : pi101 < (0 : Int32)) : M11 l Z 2 0 0 28 #[.ref pa1, .int pi100, .int pi101] h0 n0 [] [] (Q9 Z  h0) := by
  refine mi B11 ef9 (hEW G) fun s X0 hsf0 n0le => ?_
  have := F0.l
  have := F3.l
  refine oA 1 X0 d11_0 rfl rfl <| mV 4 0 X0 F0 (rm_au7 G F1 pc_0) (u8 G) all0 d11_1 rfl rfl rfl lr (by decide) all0 ?_
  rintro _ _ _ _ X1 rfl K1 _ _
  refine sk [.int 1] rfl <| on 7 X1 d11_4 rfl ((if0 _ _).trans (feq (by decide)).1) <| oA 8 X1 d11_7 rfl rfl ?_
  have f2 := F2.k0 K1
  refine oF 11 X1 (w33 G) Via.refl f2 d11_8 rfl ?_
  intro _ X4
  refine oI 12 X4 d11_11 rfl rfl <| oI 13 X4 d11_12 rfl rfl ?_
  have f5 := F3.k0 K1
  refine mS 16 0 X4 (rm_au19 G f5 pc_1 pc_2 pc_3 pc_4) (u11 G) all0 d11_13 rfl rfl rfl lr (by decide) all0 ?_
  rintro _ _ _ _ X6 rfl _ _ _
  refine sk [.int (-1)] rfl <| og 28 X6 d11_16 (by decide) ?_
  exact o_iret X6 d11_28 rfl (by decide) (by decide) (fun _ CC => rfl)
theorem rm_au21 (G : GL l Z a0 zc fmt) (F0 : ex1 Z h0 pa1) (F1 : fd0 Z h0 pa1 (.int 0)) (F2 : fd1 Z h0 pa1 (.ref pa2)) (F3 : av1 Z h0 pa2 pk1 0 ps_pa2) : M8 l Z 3 0 0 42 #[.ref pa1, .int 46] h0 n0 [] [] (Q9 Z  h0) := by
  refine mi B8 ef6 (hEW G) fun s X0 hsf0 n0le => ?_
  have := F0.l
  have := F3.l
  refine oA 1 X0 d8_0 rfl rfl <| oI 2 X0 d8_1 rfl rfl <| oA 3 X0 d8_2 rfl rfl <| mV 6 2 X0 F0 (rm_au18 G F0 F1 F2 F3) (u7 G) all0 d8_3 rfl rfl rfl lr (by decide) all0 ?_
  rintro _ _ _ _ X1 rfl K1 _ _
  refine sk [i0, .int 46, .ref pa1] rfl <| oc 7 (v := 1) X1 d8_6 rfl (by decide) <| o_isub 8 (v := (-1)) X1 d8_7 rfl (by decide) ?_
  have f2 := F0.keep K1
  have f3 := F1.k0 K1
  have f4 := F2.k0 K1
  have f5 := F3.k0 K1
  refine mV 11 0 X1 f2 (rm_au20 G f2 f3 f4 f5 (by decide) (by decide) (by decide) (by decide) (by decide)) (u12 G) all0 d8_8 rfl rfl rfl lr (by decide) all0 ?_
  rintro _ _ _ _ X6 rfl _ _ _
  refine sk [.int (-1)] rfl ?_
  exact o_iret X6 d8_11 rfl (by decide) (by decide) (fun _ CC => rfl)
def Q10 (Z : State) (h0 : Heap) (v : Option Value) (h : Heap) (vm : Vm) : Prop := v = some .null
theorem rm_au22 (G : GL l Z a0 zc fmt) (F0 : ex1 Z h0 pa1) (F1 : fd0 Z h0 pa1 (.int 0)) (F2 : fd1 Z h0 pa1 (.ref pa2)) (F3 : av1 Z h0 pa2 pk1 1 [.int pi100]) (F4 : ex0 Z h0 pa2) (pc_0 : pi100 = (47 : Int32)) : M7 l Z 4 2 4 58 #[.ref pa1] h0 n0 [] [] (Q10 Z  h0) := by
  refine mi B7 ef7 (hEW G) fun s X0 hsf0 n0le => ?_
  have := F0.l
  have := F3.l
  refine oA 1 X0 d7_0 rfl rfl <| oA 2 X0 d7_1 rfl rfl <| ob 4 (v := 47) X0 d7_2 rfl (by decide) <| mV 7 1 X0 F0 (rm_au12 G F0 F1 F2 F3 pc_0) (u13 G) all0 d7_4 rfl rfl rfl lr (by decide) all0 ?_
  rintro _ _ _ _ X1 rfl K1 _ _
  refine sk [i0, .ref pa1] rfl <| oc 8 (v := 1) X1 d7_7 rfl (by decide) <| o_iadd 9 (v := 1) X1 d7_8 rfl (by decide) ?_
  have f2 := F0.keep K1
  have f3 := F1.k0 K1
  have f4 := F2.k0 K1
  have f5 := F3.k0 K1
  have f6 := F4.keep K1
  refine mV 12 0 X1 f2 (rm_au17 G f2 f3 f4 f5 f6) (u18 G) all0 d7_9 rfl rfl rfl lr (by decide) all0 ?_
  rintro _ _ _ _ X7 ⟨xa1_8, _, _, rfl, q11, q12, q13, q14, _⟩ _ _ _
  refine sk [.ref xa1_8] rfl <| oV 13 (l' := #[rr pa1, rr xa1_8, uu]) X7 d7_12 rfl rfl rfl <| oA 14 X7 d7_13 rfl rfl <| ob 16 (v := 46) X7 d7_14 rfl (by decide) <| mV 19 0 X7 q11 (rm_au21 G q11 q12 q13 q14) (u13 G) all0 d7_16 rfl rfl rfl lr (by decide) all0 ?_
  rintro _ _ _ _ X16 rfl _ _ _
  refine sk [.int (-1)] rfl <| oT 20 (l' := #[rr pa1, rr xa1_8, ii (-1)]) X16 d7_19 rfl rfl <| oI 21 X16 d7_20 rfl rfl <| on 24 X16 d7_21 rfl ((if0 _ _).trans (tlt (by decide)).2.1) <| o_aconstNull 25 X16 d7_24 rfl <| og 35 X16 d7_25 (by decide) ?_
  exact oR X16 d7_35 rfl rfl rfl (by decide) (by decide) (fun _ CC => rfl)
def Q11 (Z : State) (b1 : Addr) (b2 : ClassId) (b3 : Int32) (h0 : Heap) (v : Option Value) (h : Heap) (vm : Vm) : Prop := v = some (.int 2) ∧ av1 Z h b1 b2 2 [.int 47, .int (b3.toInt8.toInt32)] ∧ ex0 Z h b1
theorem rm_au23 (G : GL l Z a0 zc fmt) (F0 : av0 Z h0 pa1 pk1 2 [.int 47, .int pi1]) (F1 : av1 Z h0 pa2 pk2 2 [i0, i0]) (F2 : ex0 Z h0 pa2) (rg_pi1 : ¬ pi1 < 0 ∧ ¬ (255 : Int32) < pi1) (ne : NE pa1 pa2 ∧ n0 ≤ pa2) : M5 l Z 0 0 0 0 #[.ref pa1, i0, .ref pa2, i0, .int 2] h0 n0 [pa2] [pa2] (Q11 Z pa2 pk2 pi1 h0) := by
  refine mi B5 ef5 (hEW G) fun s X0 hsf0 n0le => ?_
  have := F0.l
  have := F1.l
  have sf_pa2 := hsf0 pa2 (by simp)
  refine oc 1 (v := 0) X0 d5_0 rfl (by decide) <| oS 3 (l' := #[rr pa1, ii 0, rr pa2, ii 0, ii 2, ii 0, uu]) X0 d5_1 rfl rfl <| oi 5 X0 d5_3 rfl rfl <| oi 7 X0 d5_5 rfl rfl <| oN 10 X0 d5_7 rfl (tlt (by decide)).2.1 <| oA 11 X0 d5_10 rfl rfl <| oI 12 X0 d5_11 rfl rfl <| oC 13 (v := (.int 47)) X0 F0 ⟨by decide, by decide⟩ rfl d5_12 rfl <| oS 15 (l' := #[rr pa1, ii 0, rr pa2, ii 0, ii 2, ii 0, ii 47]) X0 d5_13 rfl rfl <| oi 17 X0 d5_15 rfl rfl <| o_sipush 20 (v := 255) X0 d5_17 rfl (by decide) <| oY 26 X0 d5_20 (by decide) (flt (by decide)).2.2.2 ?_
  refine oA 27 X0 d5_26 rfl rfl <| oI 28 X0 d5_27 rfl rfl <| oi 30 X0 d5_28 rfl rfl <| o_i2b 31 (v := 47) X0 d5_30 rfl (by decide) <| sB 32 0 47 X0 F1 (by decide) (lb rfl) (by decide) d5_31 rfl (by omega) (Or.inl (by simp)) sf_pa2 ?_
  rintro _ _ X1 ⟨_, _, W1⟩ C1 V1
  have := W1.size
  have V2 := V1.as [.int 47, i0] rfl
  refine oJ 35 1 #[rr pa1, ii 1, rr pa2, ii 0, ii 2, ii 0, ii 47] X1 d5_32 rfl rfl (by decide) rfl <| oJ 38 1 #[rr pa1, ii 1, rr pa2, ii 1, ii 2, ii 0, ii 47] X1 d5_35 rfl rfl (by decide) rfl <| oJ 41 1 #[rr pa1, ii 1, rr pa2, ii 1, ii 2, ii 1, ii 47] X1 d5_38 rfl rfl (by decide) rfl <| og 3 X1 d5_41 (by decide) <| oi 5 X1 d5_3 rfl rfl <| oi 7 X1 d5_5 rfl rfl <| oN 10 X1 d5_7 rfl (tlt (by decide)).2.1 <| oA 11 X1 d5_10 rfl rfl <| oI 12 X1 d5_11 rfl rfl ?_
  have f3 := F0.oth W1 (by omega)
  refine oC 13 (v := (.int pi1)) X1 f3 ⟨by decide, by decide⟩ rfl d5_12 rfl <| oS 15 (l' := #[rr pa1, ii 1, rr pa2, ii 1, ii 2, ii 1, ii pi1]) X1 d5_13 rfl rfl <| oi 17 X1 d5_15 rfl rfl <| o_sipush 20 (v := 255) X1 d5_17 rfl (by decide) <| oY 26 X1 d5_20 (by decide) (flt rg_pi1.2).2.2.2 <| oA 27 X1 d5_26 rfl rfl <| oI 28 X1 d5_27 rfl rfl <| oi 30 X1 d5_28 rfl rfl <| o_i2b 31 (v := (pi1.toInt8.toInt32)) X1 d5_30 rfl rfl ?_
  have f5 := C1.safe (own_lt (by omega)) sf_pa2
  refine sB 32 1 (pi1.toInt8.toInt32) X1 V2 (by decide) (lb rfl) (own_narB _) d5_31 rfl (by omega) (Or.inl (by simp)) f5 ?_
  rintro _ _ X4 ⟨_, _, W4⟩ _ V4
  have := W4.size
  have V6 := V4.as [.int 47, .int (pi1.toInt8.toInt32)] rfl
  refine oJ 35 2 #[rr pa1, ii 2, rr pa2, ii 1, ii 2, ii 1, ii pi1] X4 d5_32 rfl rfl (by decide) rfl <| oJ 38 2 #[rr pa1, ii 2, rr pa2, ii 2, ii 2, ii 1, ii pi1] X4 d5_35 rfl rfl (by decide) rfl <| oJ 41 2 #[rr pa1, ii 2, rr pa2, ii 2, ii 2, ii 2, ii pi1] X4 d5_38 rfl rfl (by decide) rfl <| og 3 X4 d5_41 (by decide) <| oi 5 X4 d5_3 rfl rfl <| oi 7 X4 d5_5 rfl rfl <| oY 44 X4 d5_7 (by decide) (flt (by decide)).2.1 <| oi 46 X4 d5_44 rfl rfl ?_
  have f7 := (F2.wr W1).wr W4
  exact o_iret X4 d5_46 rfl (by decide) (by decide) (fun _ CC => ⟨rfl, V6, f7⟩)
def Q12 (Z : State) (b1 : Int32) (h0 : Heap) (v : Option Value) (h : Heap) (vm : Vm) : Prop := ∃ (xa1 : Addr) (xk1 : ClassId), v = some (.ref xa1) ∧ av1 Z h xa1 xk1 2 [.int 47, .int (b1.toInt8.toInt32)] ∧ ex0 Z h xa1 ∧ Safe Z EL0 vm h xa1 ∧ h0.size ≤ xa1 ∧ h.size > xa1
theorem rm_au24 (G : GL l Z a0 zc fmt) (F0 : av0 Z h0 pa1 pk1 2 [.int 47, .int pi1]) (rg_pi1 : ¬ pi1 < 0 ∧ ¬ (255 : Int32) < pi1) : M4 l Z 1 1 2 18 #[.ref pa1, i0, .int 2] h0 n0 [] [] (Q12 Z pi1 h0) := by
  refine mi B4 ef4 (hEW G) fun s X0 hsf0 n0le => ?_
  have l1 := F0.l
  refine oI 1 X0 d4_0 rfl rfl <| nP (aty := .byte) 3 2 X0 (w24 G) d4_1 rfl (by decide) had_byte ?_
  intro _ h1 b1 k1 X1 _ l1 E1 V1 A1 _ S1
  have V2 : av1 Z h1 b1 k1 2 [i0, i0] := V1.pad (pad_rep [] (.int (0 : Int32)) 2)
  refine oV 4 (l' := #[rr pa1, ii 0, ii 2, rr b1, uu, uu]) X1 d4_3 rfl rfl rfl <| oA 5 X1 d4_4 rfl rfl <| oI 6 X1 d4_5 rfl rfl <| oA 7 X1 d4_6 rfl rfl <| oc 8 (v := 0) X1 d4_7 rfl (by decide) <| oI 9 X1 d4_8 rfl rfl ?_
  have f3 := F0.ext E1
  refine mS 12 0 X1 (rm_au23 G f3 V2 A1 rg_pi1 (by omega)) (u1 G) (sS (by omega) S1 all0) d4_9 rfl rfl rfl lr (by decide) (aR (by omega) all0) ?_
  rintro _ _ _ _ X4 ⟨rfl, q5, q6⟩ _ _ C4
  refine sk [.int 2] rfl <| oS 14 (l' := #[rr pa1, ii 0, ii 2, rr b1, ii 2, uu]) X4 d4_12 rfl rfl <| oi 16 X4 d4_14 rfl rfl <| oI 17 X4 d4_16 rfl rfl <| oY 57 X4 d4_17 (by decide) (teq (by decide)).1 <| oA 58 X4 d4_57 rfl rfl ?_
  have f7 := C4.safe (own_lt (by omega)) S1
  exact oR X4 d4_58 rfl rfl rfl (by decide) (by decide) (fun _ CC => ⟨b1, k1, rfl, q5, q6, (CC.safe (own_lt (by omega)) f7), by omega⟩)
theorem rm_au25 (G : GL l Z a0 zc fmt) (F0 : av1 Z h0 pa1 pk1 2 ps_pa1) : M6 l Z 0 0 0 0 #[.ref pa1, .int 2] h0 n0 [] [] (Q3 Z  h0) := by
  refine mi B6 ef6 (hEW G) fun s X0 hsf0 n0le => ?_
  have := F0.l
  refine oI 1 X0 d6_0 rfl rfl <| oA 2 X0 d6_1 rfl rfl <| oL 3 X0 F0 d6_2 rfl <| o_isub 4 (v := 0) X0 d6_3 rfl (by decide) <| ob 6 (v := 31) X0 d6_4 rfl (by decide) <| o_iushr 7 (v := 0) X0 d6_6 rfl (by decide) <| o_i2b 8 (v := 0) X0 d6_7 rfl (by decide) ?_
  exact o_nret (y := (0 : Int32)) (t := .byte) X0 d6_8 rfl (by decide) (by simp) (by decide) (by decide) (fun _ CC => rfl)
def Q13 (Z : State) (b1 : Addr) (b2 : Int32) (h0 : Heap) (v : Option Value) (h : Heap) (vm : Vm) : Prop := ∃ (xa1 : Addr) (xk1 : ClassId), v = none ∧ ex1 Z h b1 ∧ fd0 Z h b1 (.int 0) ∧ fd1 Z h b1 (.ref xa1) ∧ av1 Z h xa1 xk1 2 [.int 47, .int (b2.toInt8.toInt32)] ∧ ex0 Z h xa1 ∧ Safe Z EL0 vm h xa1 ∧ h0.size ≤ xa1 ∧ h.size > xa1
theorem rm_au26 (G : GL l Z a0 zc fmt) (F0 : ex1 Z h0 pa1) (F1 : fd0 Z h0 pa1 (.int 0)) (F2 : fd1 Z h0 pa1 .null) (F3 : av0 Z h0 pa2 pk1 2 [.int 47, .int pi1]) (rg_pi1 : ¬ pi1 < 0 ∧ ¬ (255 : Int32) < pi1) (ne : NE pa1 pa2 ∧ n0 ≤ pa1) : M3 l Z 2 1 2 35 #[.ref pa1, .ref pa2, i0, .int 2, .null] h0 n0 [pa1] [pa1] (Q13 Z pa1 pi1 h0) := by
  refine mi B3 ef3 (hEW G) fun s X0 hsf0 n0le => ?_
  have := F0.l
  have := F3.l
  have sf_pa1 := hsf0 pa1 (by simp)
  refine oA 1 X0 d3_0 rfl rfl <| o_initO 4 (W := 0) X0 (w16 G) (w17 G) (w18 G) rfl (by decide) (Nat.le_of_eq rfl) (by decide) d3_1 rfl ?_
  intro _ X2
  refine oI 5 X2 d3_4 rfl rfl <| oy 27 X2 d3_5 (by decide) ((if0 _ _).trans (feq (by decide)).2) <| oG 30 X2 (w19 G) Via.refl ((sg1 G).ext X2.old.2) d3_27 rfl ?_
  intro _ X4
  refine on 33 X4 d3_30 rfl ((if0 _ _).trans (feq (hzc G)).1) <| oA 34 X4 d3_33 rfl rfl <| oI 35 X4 d3_34 rfl rfl <| oI 36 X4 d3_35 rfl rfl <| mS 39 0 X4 (rm_au24 G F3 rg_pi1) (u2 G) all0 d3_36 rfl rfl rfl lr (by decide) all0 ?_
  rintro _ _ _ _ X5 ⟨xa1_6, xk1_7, rfl, q8, q9, q10, _⟩ K5 _ C5
  refine sk [.ref xa1_6] rfl <| oU 41 (l' := #[rr pa1, rr pa2, ii 0, ii 2, .val .null, rr xa1_6]) X5 d3_39 rfl rfl rfl <| oA 42 X5 d3_41 rfl rfl <| oa 44 X5 d3_42 rfl rfl <| oI 45 X5 d3_44 rfl rfl <| mS 48 1 X5 (rm_au25 G q8) (u3 G) all0 d3_45 rfl rfl rfl lr (by decide) all0 ?_
  rintro _ _ _ _ X12 rfl K12 _ C12
  refine sk [i0, .ref pa1] rfl ?_
  have f13 := (F1.k0 K5).k0 K12
  have f14 := (F0.keep K5).keep K12
  have f16 := C12.safe (own_lt (by omega)) (C5.safe (own_lt (by omega)) sf_pa1)
  refine oP 51 (v' := (.int 0)) X12 (w31 G) Via.refl f13 f14 (Or.inr ⟨(w32 G), rfl, rfl⟩) (w7 G) fd_0 rfl rfl d3_48 rfl (by omega) (Or.inl (by simp)) f16 ?_
  intro _ _ X15 W15 C15
  have := W15.size
  have f17 := f13.same W15
  refine oA 52 X15 d3_51 rfl rfl <| oa 54 X15 d3_52 rfl rfl ?_
  have f18 := ((F2.k0 K5).k0 K12).other W15 (Or.inr (sn0 G))
  have f19 := f14.wr W15
  have f21 := C15.safe (own_lt (by omega)) f16
  refine oP 57 (v' := (.ref xa1_6)) X15 (w33 G) Via.refl f18 f19 (Or.inr ⟨(w34 G), rfl, rfl⟩) (w7 G) fd_1 rfl rfl d3_54 rfl (by omega) (Or.inl (by simp)) f21 ?_
  intro _ _ X20 W20 C20
  have := W20.size
  have f22 := f18.same W20
  have f23 := f19.wr W20
  have f24 := f17.other W20 (Or.inr (sn1 G))
  have f25 := ((q8.k0 K12).oth W15 (by omega)).oth W20 (by omega)
  have f26 := ((q9.keep K12).wr W15).wr W20
  have f27 := C20.safe (own_lt (by omega)) (C15.safe (own_lt (by omega)) (C12.safe (own_lt (by omega)) q10))
  exact oz X20 d3_57 rfl (by decide) (by decide) (fun _ CC => ⟨xa1_6, xk1_7, rfl, f23, f24, f22, f25, f26, (CC.safe (own_lt (by omega)) f27), by omega⟩)
theorem rm_au27 (G : GL l Z a0 zc fmt) (F0 : ex1 Z h0 pa1) (F1 : fd0 Z h0 pa1 (.int 0)) (F2 : fd1 Z h0 pa1 .null) (F3 : av0 Z h0 pa2 pk1 2 [.int 47, .int pi1]) (rg_pi1 : ¬ pi1 < 0 ∧ ¬ (255 : Int32) < pi1) (ne : NE pa1 pa2 ∧ n0 ≤ pa1) : M2 l Z 3 1 2 52 #[.ref pa1, .ref pa2] h0 n0 [pa1] [pa1] (Q13 Z pa1 pi1 h0) := by
  refine mi B2 ef2 (hEW G) fun s X0 hsf0 n0le => ?_
  have := F0.l
  have := F3.l
  have sf_pa1 := hsf0 pa1 (by simp)
  refine oA 1 X0 d2_0 rfl rfl <| oA 2 X0 d2_1 rfl rfl <| oc 3 (v := 0) X0 d2_2 rfl (by decide) <| oA 4 X0 d2_3 rfl rfl <| oL 5 X0 F3 d2_4 rfl <| o_aconstNull 6 X0 d2_5 rfl <| mP 9 0 X0 (rm_au26 G F0 F1 F2 F3 rg_pi1 (by omega)) (u4 G) (sS (by omega) sf_pa1 all0) d2_6 rfl rfl rfl lr (by decide) (aI (by omega) (by simp) all0) ?_
  rintro _ _ _ _ X1 ⟨xa1_2, xk1_3, rfl, q4, q5, q6, q7, q8, q9, _⟩ _ _ _
  refine sk [] rfl ?_
  exact oz X1 d2_9 rfl (by decide) (by decide) (fun _ CC => ⟨xa1_2, xk1_3, rfl, q4, q5, q6, q7, q8, (CC.safe (own_lt (by omega)) q9), by omega⟩)
def Q14 (Z : State) (h0 : Heap) (v : Option Value) (h : Heap) (vm : Vm) : Prop := v = some (.int 2)
theorem rm_au28 (G : GL l Z a0 zc fmt) (F0 : ex1 Z h0 pa1) (F1 : fd0 Z h0 pa1 (.int 0)) (F2 : fd1 Z h0 pa1 (.ref pa2)) (F3 : av1 Z h0 pa2 pk1 2 ps_pa2) : M9 l Z 1 0 0 13 #[.ref pa1] h0 n0 [] [] (Q14 Z  h0) := by
  refine mi B9 ef8 (hEW G) fun s X0 hsf0 n0le => ?_
  have := F0.l
  have := F3.l
  refine oA 1 X0 d9_0 rfl rfl <| oF 4 X0 (w33 G) Via.refl F2 d9_1 rfl ?_
  intro _ X2
  refine oL 5 X2 F3 d9_4 rfl <| oA 6 X2 d9_5 rfl rfl <| mV 9 1 X2 F0 (rm_au5 G F1) (u6 G) all0 d9_6 rfl rfl rfl lr (by decide) all0 ?_
  rintro _ _ _ _ X3 rfl _ _ _
  refine sk [i0, .int 2] rfl <| o_ishr 10 (v := 2) X3 d9_9 rfl (by decide) ?_
  exact o_iret X3 d9_10 rfl (by decide) (by decide) (fun _ CC => rfl)
theorem rm_au29 (G : GL l Z a0 zc fmt) (F0 : av1 Z h0 pa1 pk1 2 [.int pi1, .int pi2]) (nk_pi2_47 : ¬ pi2 = (47 : Int32)) (pc_0 : pi1 = (47 : Int32)) : M13 l Z 1 0 0 13 #[.ref pa1, .int 47, .int 1] h0 n0 [] [] (Q3 Z  h0) := by
  refine mi B13 ef10 (hEW G) fun s X0 hsf0 n0le => ?_
  have := F0.l
  refine oI 1 X0 d13_0 rfl rfl <| mS 4 0 X0 (rm_au8 G (by decide) (by decide)) (u9 G) all0 d13_1 rfl rfl rfl lr (by decide) all0 ?_
  rintro _ _ _ _ X1 rfl K1 _ _
  refine sk [.int 1] rfl <| oy 9 X1 d13_4 (by decide) ((if0 _ _).trans (feq (by decide)).2) <| oI 10 X1 d13_9 rfl rfl <| oA 11 X1 d13_10 rfl rfl ?_
  have f2 := F0.k0 K1
  refine oL 12 X1 f2 d13_11 rfl <| oc 13 (v := 1) X1 d13_12 rfl (by decide) <| o_isub 14 (v := 1) X1 d13_13 rfl (by decide) <| mS 17 0 X1 (rm_au9 G (by decide)) (u10 G) all0 d13_14 rfl rfl rfl lr (by decide) all0 ?_
  rintro _ _ _ _ X3 rfl K3 _ _
  refine sk [.int 1] rfl <| oT 18 (l' := #[rr pa1, ii 47, ii 1, ii 1]) X3 d13_17 rfl rfl <| oI 19 X3 d13_18 rfl rfl <| on 22 X3 d13_19 rfl ((if0 _ _).trans (flt (by decide)).1) <| oA 23 X3 d13_22 rfl rfl <| oI 24 X3 d13_23 rfl rfl ?_
  have f4 := f2.k0 K3
  refine oB 25 (v := (.int pi2)) X3 f4 ⟨by decide, by decide⟩ rfl d13_24 rfl <| oI 26 X3 d13_25 rfl rfl <| o_i2b 27 (v := 47) X3 d13_26 rfl (by decide) <| oY 32 X3 d13_27 (by decide) (feq nk_pi2_47).2 <| oJ 35 0 #[rr pa1, ii 47, ii 1, ii 0] X3 d13_32 rfl rfl (by decide) rfl <| og 18 X3 d13_35 (by decide) <| oI 19 X3 d13_18 rfl rfl <| on 22 X3 d13_19 rfl ((if0 _ _).trans (flt (by decide)).1) <| oA 23 X3 d13_22 rfl rfl <| oI 24 X3 d13_23 rfl rfl <| oB 25 (v := (.int pi1)) X3 f4 ⟨by decide, by decide⟩ rfl d13_24 rfl <| oI 26 X3 d13_25 rfl rfl ?_
  refine o_i2b 27 (v := 47) X3 d13_26 rfl (by decide) <| oN 30 X3 d13_27 rfl (teq pc_0).2 <| oI 31 X3 d13_30 rfl rfl ?_
  exact o_iret X3 d13_31 rfl (by decide) (by decide) (fun _ CC => rfl)
theorem rm_au30 (G : GL l Z a0 zc fmt) (F0 : ex1 Z h0 pa1) (F1 : fd0 Z h0 pa1 (.int 0)) (F2 : fd1 Z h0 pa1 (.ref pa2)) (F3 : av1 Z h0 pa2 pk1 2 [.int pi1, .int pi2]) (nk_pi2_47 : ¬ pi2 = (47 : Int32)) (pc_0 : pi1 = (47 : Int32)) : M11 l Z 2 0 0 28 #[.ref pa1, .int 47, .int 1] h0 n0 [] [] (Q3 Z  h0) := by
  refine mi B11 ef9 (hEW G) fun s X0 hsf0 n0le => ?_
  have := F0.l
  have := F3.l
  refine oA 1 X0 d11_0 rfl rfl <| mV 4 0 X0 F0 (rm_au7 G F1 (by decide)) (u8 G) all0 d11_1 rfl rfl rfl lr (by decide) all0 ?_
  rintro _ _ _ _ X1 rfl K1 _ _
  refine sk [.int 1] rfl <| on 7 X1 d11_4 rfl ((if0 _ _).trans (feq (by decide)).1) <| oA 8 X1 d11_7 rfl rfl ?_
  have f2 := F2.k0 K1
  refine oF 11 X1 (w33 G) Via.refl f2 d11_8 rfl ?_
  intro _ X4
  refine oI 12 X4 d11_11 rfl rfl <| oI 13 X4 d11_12 rfl rfl ?_
  have f5 := F3.k0 K1
  refine mS 16 0 X4 (rm_au29 G f5 nk_pi2_47 pc_0) (u11 G) all0 d11_13 rfl rfl rfl lr (by decide) all0 ?_
  rintro _ _ _ _ X6 rfl _ _ _
  refine sk [i0] rfl <| og 28 X6 d11_16 (by decide) ?_
  exact o_iret X6 d11_28 rfl (by decide) (by decide) (fun _ CC => rfl)
theorem rm_au31 (G : GL l Z a0 zc fmt) (F0 : ex1 Z h0 pa1) (F1 : fd0 Z h0 pa1 (.int 0)) (F2 : fd1 Z h0 pa1 (.ref pa2)) (F3 : av1 Z h0 pa2 pk1 2 [.int pi1, .int pi2]) (nk_pi2_47 : ¬ pi2 = (47 : Int32)) (pc_0 : pi1 = (47 : Int32)) : M8 l Z 3 0 0 42 #[.ref pa1, .int 47] h0 n0 [] [] (Q3 Z  h0) := by
  refine mi B8 ef6 (hEW G) fun s X0 hsf0 n0le => ?_
  have := F0.l
  have := F3.l
  refine oA 1 X0 d8_0 rfl rfl <| oI 2 X0 d8_1 rfl rfl <| oA 3 X0 d8_2 rfl rfl <| mV 6 2 X0 F0 (rm_au28 G F0 F1 F2 F3) (u7 G) all0 d8_3 rfl rfl rfl lr (by decide) all0 ?_
  rintro _ _ _ _ X1 rfl K1 _ _
  refine sk [.int 2, .int 47, .ref pa1] rfl <| oc 7 (v := 1) X1 d8_6 rfl (by decide) <| o_isub 8 (v := 1) X1 d8_7 rfl (by decide) ?_
  have f2 := F0.keep K1
  have f3 := F1.k0 K1
  have f4 := F2.k0 K1
  have f5 := F3.k0 K1
  refine mV 11 0 X1 f2 (rm_au30 G f2 f3 f4 f5 nk_pi2_47 pc_0) (u12 G) all0 d8_8 rfl rfl rfl lr (by decide) all0 ?_
  rintro _ _ _ _ X6 rfl _ _ _
  refine sk [i0] rfl ?_
  exact o_iret X6 d8_11 rfl (by decide) (by decide) (fun _ CC => rfl)
theorem rm_au32 (G : GL l Z a0 zc fmt) (pc_0 : ¬ pi2 < pi1) : M23 l Z 0 0 0 0 #[.int pi1, .int pi2] h0 n0 [] [] (Q7 Z  h0) := by
  refine mi B23 ef12 (hEW G) fun s X0 hsf0 n0le => ?_
  refine oI 1 X0 d23_0 rfl rfl <| oI 2 X0 d23_1 rfl rfl <| oY 37 X0 d23_2 (by decide) (flt pc_0).2.1 ?_
  exact oz X0 d23_37 rfl (by decide) (by decide) (fun _ CC => rfl)
def Q15 (Z : State) (b1 : Int32) (h0 : Heap) (v : Option Value) (h : Heap) (vm : Vm) : Prop := ∃ (xa1 : Addr) (xk1 : ClassId), v = some (.ref xa1) ∧ av1 Z h xa1 xk1 1 [.int b1] ∧ ex0 Z h xa1 ∧ Safe Z EL0 vm h xa1 ∧ h0.size ≤ xa1 ∧ h.size > xa1
theorem rm_au33 (G : GL l Z a0 zc fmt) (F0 : av1 Z h0 pa1 pk1 2 [.int pi1, .int pi2]) : M22 l Z 1 1 1 40 #[.ref pa1, .int 1, .int 2] h0 n0 [] [] (Q15 Z pi2 h0) := by
  refine mi B22 ef13 (hEW G) fun s X0 hsf0 n0le => ?_
  have := F0.l
  refine oI 1 X0 d22_0 rfl rfl <| oI 2 X0 d22_1 rfl rfl <| mS 5 0 X0 (rm_au32 G (by decide)) (u20 G) all0 d22_2 rfl rfl rfl lr (by decide) all0 ?_
  rintro _ _ _ _ X1 rfl K1 _ _
  refine sk [] rfl <| oI 6 X1 d22_5 rfl rfl <| oI 7 X1 d22_6 rfl rfl <| o_isub 8 (v := 1) X1 d22_7 rfl (by decide) <| oT 9 (l' := #[rr pa1, ii 1, ii 2, ii 1, uu]) X1 d22_8 rfl rfl <| oI 10 X1 d22_9 rfl rfl <| nP (aty := .byte) 12 1 X1 (w24 G) d22_10 rfl (by decide) had_byte ?_
  intro _ h2 b2 k2 X2 _ _ E2 V2 A2 _ S2
  have V3 : av1 Z h2 b2 k2 1 [i0] := V2.pad (pad_rep [] (.int (0 : Int32)) 1)
  refine oU 14 (l' := #[rr pa1, ii 1, ii 2, ii 1, rr b2]) X2 d22_12 rfl rfl rfl <| oA 15 X2 d22_14 rfl rfl <| oI 16 X2 d22_15 rfl rfl <| oa 18 X2 d22_16 rfl rfl <| oc 19 (v := 0) X2 d22_18 rfl (by decide) <| oA 20 X2 d22_19 rfl rfl ?_
  have f4 := (F0.k0 K1).ext E2
  refine oL 21 X2 f4 d22_20 rfl <| oI 22 X2 d22_21 rfl rfl <| o_isub 23 (v := 1) X2 d22_22 rfl (by decide) <| oI 24 X2 d22_23 rfl rfl <| mS 27 4 X2 (rm_au9 G (by decide)) (u21 G) all0 d22_24 rfl rfl rfl lr (by decide) all0 ?_
  rintro _ _ _ _ X5 rfl K5 _ C5
  refine sk [.int 1, i0, .ref b2, .int 1, .ref pa1] rfl ?_
  have f6 := f4.k0 K5
  have f7 := V3.k0 K5
  have f8 := C5.safe (own_lt (by omega)) S2
  refine o_cp 30 (us := [.int pi2]) (vr := [.int pi2]) (W := 0) X5 (w111 G) (w114 G) (w112 G) (w113 G) f6 f7 (Or.inl ⟨rfl, rfl⟩) (by decide) (by decide) (by decide) (by decide) (by decide) rfl (Nat.le_of_ble_eq_true rfl) rfl d22_27 rfl rfl (by decide) (Nat.le_of_eq rfl) (by decide) (by omega) (Or.inr (by omega)) f8 ?_
  intro _ _ X9 K9 C9 V9
  have := K9.1
  refine oa 32 X9 d22_30 rfl rfl ?_
  have f10 := (A2.keep K5).keep K9
  have f11 := C9.safe (own_lt (by omega)) f8
  exact oR X9 d22_32 rfl rfl rfl (by decide) (by decide) (fun _ CC => ⟨b2, k2, rfl, V9, f10, (CC.safe (own_lt (by omega)) f11), by omega⟩)
theorem rm_au34 (G : GL l Z a0 zc fmt) (F0 : av1 Z h0 pa1 pk1 2 [.int pi1, .int pi2]) : M21 l Z 2 1 1 56 #[.ref pa1, .int 1, .int 2] h0 n0 [] [] (Q15 Z pi2 h0) := by
  refine mi B21 ef9 (hEW G) fun s X0 hsf0 n0le => ?_
  have := F0.l
  refine oI 1 X0 d21_0 rfl rfl <| oy 10 X0 d21_1 (by decide) ((if0 _ _).trans (feq (by decide)).2) <| oA 11 X0 d21_10 rfl rfl <| oI 12 X0 d21_11 rfl rfl <| oI 13 X0 d21_12 rfl rfl <| mS 16 0 X0 (rm_au33 G F0) (u22 G) all0 d21_13 rfl rfl rfl lr (by decide) all0 ?_
  rintro _ _ _ _ X1 ⟨xa1_2, xk1_3, rfl, q4, q5, q6, _⟩ _ _ _
  refine sk [.ref xa1_2] rfl ?_
  exact oR X1 d21_16 rfl rfl rfl (by decide) (by decide) (fun _ CC => ⟨xa1_2, xk1_3, rfl, q4, q5, (CC.safe (own_lt (by omega)) q6), by omega⟩)
def Q16 (Z : State) (b1 b2 : Addr) (h0 : Heap) (v : Option Value) (h : Heap) (vm : Vm) : Prop := v = none ∧ ex1 Z h b1 ∧ fd0 Z h b1 (.int 0) ∧ fd1 Z h b1 (.ref b2)
theorem rm_au35 (G : GL l Z a0 zc fmt) (F0 : ex1 Z h0 pa1) (F1 : fd0 Z h0 pa1 (.int 0)) (F2 : fd1 Z h0 pa1 .null) (ne : n0 ≤ pa1) : M24 l Z 1 0 0 12 #[.ref pa1, .ref pa2, i0] h0 n0 [pa1] [pa1] (Q16 Z pa1 pa2 h0) := by
  refine mi B24 ef16 (hEW G) fun s X0 hsf0 n0le => ?_
  have := F0.l
  have sf_pa1 := hsf0 pa1 (by simp)
  refine oA 1 X0 d24_0 rfl rfl <| o_initO 4 (W := 0) X0 (w16 G) (w17 G) (w18 G) rfl (by decide) (Nat.le_of_eq rfl) (by decide) d24_1 rfl ?_
  intro _ X2
  refine oA 5 X2 d24_4 rfl rfl <| oA 6 X2 d24_5 rfl rfl <| oP 9 (v' := (.ref pa2)) X2 (w33 G) Via.refl F2 F0 (Or.inr ⟨(w34 G), rfl, rfl⟩) (w7 G) fd_1 rfl rfl d24_6 rfl (by omega) (Or.inl (by simp)) sf_pa1 ?_
  intro _ _ X3 W3 C3
  have := W3.size
  have f4 := F2.same W3
  refine oA 10 X3 d24_9 rfl rfl <| oI 11 X3 d24_10 rfl rfl ?_
  have f5 := F1.other W3 (Or.inr (sn1 G))
  have f6 := F0.wr W3
  have f8 := C3.safe (own_lt (by omega)) sf_pa1
  refine oP 14 (v' := (.int 0)) X3 (w31 G) Via.refl f5 f6 (Or.inr ⟨(w32 G), rfl, rfl⟩) (w7 G) fd_0 rfl rfl d24_11 rfl (by omega) (Or.inl (by simp)) f8 ?_
  intro _ _ X7 W7 _
  have := W7.size
  have f9 := f5.same W7
  have f10 := f6.wr W7
  have f11 := f4.other W7 (Or.inr (sn0 G))
  exact oz X7 d24_14 rfl (by decide) (by decide) (fun _ CC => ⟨rfl, f10, f9, f11⟩)
def Q17 (Z : State) (b1 : Int32) (h0 : Heap) (v : Option Value) (h : Heap) (vm : Vm) : Prop := ∃ (xa1 : Addr) (xa2 : Addr) (xk1 : ClassId), v = some (.ref xa1) ∧ ex1 Z h xa1 ∧ fd0 Z h xa1 (.int 0) ∧ fd1 Z h xa1 (.ref xa2) ∧ Safe Z EL0 vm h xa1 ∧ av1 Z h xa2 xk1 1 [.int b1] ∧ ex0 Z h xa2 ∧ Safe Z EL0 vm h xa2 ∧ h0.size ≤ xa1 ∧ h.size > xa1 ∧ h0.size ≤ xa2 ∧ h.size > xa2 ∧ NE xa1 xa2
theorem rm_au36 (G : GL l Z a0 zc fmt) (F0 : av1 Z h0 pa1 pk1 2 [.int pi1, .int pi2]) : M20 l Z 3 2 5 72 #[.ref pa1, .int 1, .int 1] h0 n0 [] [] (Q17 Z pi2 h0) := by
  refine mi B20 ef9 (hEW G) fun s X0 hsf0 n0le => ?_
  have l1 := F0.l
  refine oI 1 X0 d20_0 rfl rfl <| oy 7 X0 d20_1 (by decide) ((if0 _ _).trans (feq (by decide)).2) <| o_new 10 X0 (w99 G) (w7 G) (w8 G) d20_7 rfl (by decide) (by decide) ?_
  intro _ h1 b1 X1 _ l1 E1 A1 D1 _ _ S1
  have f2 : fd0 Z h1 b1 (.int 0) := D1 (Or.inr (w32 G)) fd_0
  have f3 : fd1 Z h1 b1 .null := D1 (Or.inr (w34 G)) fd_1
  refine oD 11 X1 d20_10 rfl rfl <| oA 12 X1 d20_11 rfl rfl <| oI 13 X1 d20_12 rfl rfl <| oI 14 X1 d20_13 rfl rfl <| oI 15 X1 d20_14 rfl rfl <| o_iadd 16 (v := 2) X1 d20_15 rfl (by decide) ?_
  have f4 := F0.ext E1
  refine mS 19 2 X1 (rm_au34 G f4) (u23 G) all0 d20_16 rfl rfl rfl lr (by decide) all0 ?_
  rintro _ _ _ _ X5 ⟨xa1_6, xk1_7, rfl, q8, q9, q10, _⟩ K5 _ C5
  refine sk [.ref xa1_6, .ref b1, .ref b1] rfl <| oc 20 (v := 0) X5 d20_19 rfl (by decide) ?_
  have f12 := A1.keep K5
  have f13 := f2.k0 K5
  have f14 := f3.k0 K5
  have f15 := C5.safe (own_lt (by omega)) S1
  refine mP 23 1 X5 (rm_au35 G f12 f13 f14 (by omega)) (u24 G) (sS (by omega) f15 all0) d20_20 rfl rfl rfl lr (by decide) (aR (by omega) all0) ?_
  rintro _ _ _ _ X16 ⟨rfl, q17, q18, q19⟩ K16 _ C16
  refine sk [.ref b1] rfl ?_
  have f20 := C16.safe (own_lt (by omega)) f15
  have f21 := q8.k1 K16 (by omega)
  have f22 := q9.keep K16
  have f23 := C16.safe (own_lt (by omega)) q10
  exact oR X16 d20_23 rfl rfl rfl (by decide) (by decide) (fun _ CC => ⟨b1, xa1_6, xk1_7, rfl, q17, q18, q19, (CC.safe (own_lt (by omega)) f20), f21, f22, (CC.safe (own_lt (by omega)) f23), by omega⟩)
theorem rm_au37 (G : GL l Z a0 zc fmt) (F0 : ex1 Z h0 pa1) (F1 : fd0 Z h0 pa1 (.int 0)) (F2 : fd1 Z h0 pa1 (.ref pa2)) (F3 : av1 Z h0 pa2 pk1 2 [.int pi1, .int pi2]) : M17 l Z 4 2 5 86 #[.ref pa1, .int 1, .int 2] h0 n0 [] [] (Q17 Z pi2 h0) := by
  refine mi B17 ef13 (hEW G) fun s X0 hsf0 n0le => ?_
  have := F0.l
  have := F3.l
  refine oA 1 X0 d17_0 rfl rfl <| mV 4 0 X0 F0 (rm_au28 G F0 F1 F2 F3) (u7 G) all0 d17_1 rfl rfl rfl lr (by decide) all0 ?_
  rintro _ _ _ _ X1 rfl K1 _ _
  refine sk [.int 2] rfl <| oT 5 (l' := #[rr pa1, ii 1, ii 2, ii 2, uu]) X1 d17_4 rfl rfl <| oI 6 X1 d17_5 rfl rfl <| oI 7 X1 d17_6 rfl rfl <| oI 8 X1 d17_7 rfl rfl <| mS 11 0 X1 (rm_au14 G (by decide) (by decide) (by decide)) (u15 G) all0 d17_8 rfl rfl rfl lr (by decide) all0 ?_
  rintro _ _ _ _ X2 rfl K2 _ _
  refine sk [] rfl <| oI 12 X2 d17_11 rfl rfl <| oy 22 X2 d17_12 (by decide) ((if0 _ _).trans (feq (by decide)).2) <| oI 23 X2 d17_22 rfl rfl <| oI 24 X2 d17_23 rfl rfl <| o_isub 25 (v := 1) X2 d17_24 rfl (by decide) <| oS 27 (l' := #[rr pa1, ii 1, ii 2, ii 2, ii 1]) X2 d17_25 rfl rfl <| oA 28 X2 d17_27 rfl rfl ?_
  have f3 := (F1.k0 K1).k0 K2
  have f4 := (F0.keep K1).keep K2
  refine mV 31 0 X2 f4 (rm_au7 G f3 (by decide)) (u8 G) all0 d17_28 rfl rfl rfl lr (by decide) all0 ?_
  rintro _ _ _ _ X5 rfl K5 _ _
  refine sk [.int 1] rfl <| on 34 X5 d17_31 rfl ((if0 _ _).trans (feq (by decide)).1) <| oA 35 X5 d17_34 rfl rfl ?_
  have f6 := ((F2.k0 K1).k0 K2).k0 K5
  refine oF 38 X5 (w33 G) Via.refl f6 d17_35 rfl ?_
  intro _ X8
  refine oI 39 X8 d17_38 rfl rfl <| oi 41 X8 d17_39 rfl rfl ?_
  have f9 := ((F3.k0 K1).k0 K2).k0 K5
  refine mS 44 0 X8 (rm_au36 G f9) (u16 G) all0 d17_41 rfl rfl rfl lr (by decide) all0 ?_
  rintro _ _ _ _ X10 ⟨xa1_11, xa2_12, xk1_13, rfl, q14, q15, q16, q17, q18, q19, q20, _⟩ _ _ _
  refine sk [.ref xa1_11] rfl <| og 57 X10 d17_44 (by decide) ?_
  exact oR X10 d17_57 rfl rfl rfl (by decide) (by decide) (fun _ CC => ⟨xa1_11, xa2_12, xk1_13, rfl, q14, q15, q16, (CC.safe (own_lt (by omega)) q17), q18, q19, (CC.safe (own_lt (by omega)) q20), by omega⟩)
theorem rm_au38 (G : GL l Z a0 zc fmt) (F0 : ex1 Z h0 pa1) (F1 : fd0 Z h0 pa1 (.int 0)) (F2 : fd1 Z h0 pa1 (.ref pa2)) (F3 : av1 Z h0 pa2 pk1 2 [.int pi1, .int pi2]) : M16 l Z 5 2 5 102 #[.ref pa1, .int 1] h0 n0 [] [] (Q17 Z pi2 h0) := by
  refine mi B16 ef6 (hEW G) fun s X0 hsf0 n0le => ?_
  have := F0.l
  have := F3.l
  refine oA 1 X0 d16_0 rfl rfl <| oI 2 X0 d16_1 rfl rfl <| oA 3 X0 d16_2 rfl rfl <| mV 6 2 X0 F0 (rm_au28 G F0 F1 F2 F3) (u7 G) all0 d16_3 rfl rfl rfl lr (by decide) all0 ?_
  rintro _ _ _ _ X1 rfl K1 _ _
  refine sk [.int 2, .int 1, .ref pa1] rfl ?_
  have f2 := F0.keep K1
  have f3 := F1.k0 K1
  have f4 := F2.k0 K1
  have f5 := F3.k0 K1
  refine mV 9 0 X1 f2 (rm_au37 G f2 f3 f4 f5) (u17 G) all0 d16_6 rfl rfl rfl lr (by decide) all0 ?_
  rintro _ _ _ _ X6 ⟨xa1_7, xa2_8, xk1_9, rfl, q10, q11, q12, q13, q14, q15, q16, _⟩ _ _ _
  refine sk [.ref xa1_7] rfl ?_
  exact oR X6 d16_9 rfl rfl rfl (by decide) (by decide) (fun _ CC => ⟨xa1_7, xa2_8, xk1_9, rfl, q10, q11, q12, (CC.safe (own_lt (by omega)) q13), q14, q15, (CC.safe (own_lt (by omega)) q16), by omega⟩)
theorem rm_au39 (G : GL l Z a0 zc fmt) (F0 : av1 Z h0 pa1 pk1 1 [.int pi1]) (nk_pi1_46 : ¬ pi1 = (46 : Int32)) : M13 l Z 1 0 0 13 #[.ref pa1, .int 46, i0] h0 n0 [] [] (Q9 Z  h0) := by
  refine mi B13 ef10 (hEW G) fun s X0 hsf0 n0le => ?_
  have := F0.l
  refine oI 1 X0 d13_0 rfl rfl <| mS 4 0 X0 (rm_au8 G (by decide) (by decide)) (u9 G) all0 d13_1 rfl rfl rfl lr (by decide) all0 ?_
  rintro _ _ _ _ X1 rfl K1 _ _
  refine sk [.int 1] rfl <| oy 9 X1 d13_4 (by decide) ((if0 _ _).trans (feq (by decide)).2) <| oI 10 X1 d13_9 rfl rfl <| oA 11 X1 d13_10 rfl rfl ?_
  have f2 := F0.k0 K1
  refine oL 12 X1 f2 d13_11 rfl <| oc 13 (v := 1) X1 d13_12 rfl (by decide) <| o_isub 14 (v := 0) X1 d13_13 rfl (by decide) <| mS 17 0 X1 (rm_au9 G (by decide)) (u10 G) all0 d13_14 rfl rfl rfl lr (by decide) all0 ?_
  rintro _ _ _ _ X3 rfl K3 _ _
  refine sk [i0] rfl <| oT 18 (l' := #[rr pa1, ii 46, ii 0, ii 0]) X3 d13_17 rfl rfl <| oI 19 X3 d13_18 rfl rfl <| on 22 X3 d13_19 rfl ((if0 _ _).trans (flt (by decide)).1) <| oA 23 X3 d13_22 rfl rfl <| oI 24 X3 d13_23 rfl rfl ?_
  have f4 := f2.k0 K3
  refine oB 25 (v := (.int pi1)) X3 f4 ⟨by decide, by decide⟩ rfl d13_24 rfl <| oI 26 X3 d13_25 rfl rfl <| o_i2b 27 (v := 46) X3 d13_26 rfl (by decide) <| oY 32 X3 d13_27 (by decide) (feq nk_pi1_46).2 <| oJ 35 (-1) #[rr pa1, ii 46, ii 0, ii (-1)] X3 d13_32 rfl rfl (by decide) rfl <| og 18 X3 d13_35 (by decide) <| oI 19 X3 d13_18 rfl rfl <| oy 38 X3 d13_19 (by decide) ((if0 _ _).trans (tlt (by decide)).1) <| oc 39 (v := (-1)) X3 d13_38 rfl (by decide) ?_
  exact o_iret X3 d13_39 rfl (by decide) (by decide) (fun _ CC => rfl)
theorem rm_au40 (G : GL l Z a0 zc fmt) (F0 : ex1 Z h0 pa1) (F1 : fd0 Z h0 pa1 (.int 0)) (F2 : fd1 Z h0 pa1 (.ref pa2)) (F3 : av1 Z h0 pa2 pk1 1 [.int pi1]) (nk_pi1_46 : ¬ pi1 = (46 : Int32)) : M11 l Z 2 0 0 28 #[.ref pa1, .int 46, i0] h0 n0 [] [] (Q9 Z  h0) := by
  refine mi B11 ef9 (hEW G) fun s X0 hsf0 n0le => ?_
  have := F0.l
  have := F3.l
  refine oA 1 X0 d11_0 rfl rfl <| mV 4 0 X0 F0 (rm_au7 G F1 (by decide)) (u8 G) all0 d11_1 rfl rfl rfl lr (by decide) all0 ?_
  rintro _ _ _ _ X1 rfl K1 _ _
  refine sk [.int 1] rfl <| on 7 X1 d11_4 rfl ((if0 _ _).trans (feq (by decide)).1) <| oA 8 X1 d11_7 rfl rfl ?_
  have f2 := F2.k0 K1
  refine oF 11 X1 (w33 G) Via.refl f2 d11_8 rfl ?_
  intro _ X4
  refine oI 12 X4 d11_11 rfl rfl <| oI 13 X4 d11_12 rfl rfl ?_
  have f5 := F3.k0 K1
  refine mS 16 0 X4 (rm_au39 G f5 nk_pi1_46) (u11 G) all0 d11_13 rfl rfl rfl lr (by decide) all0 ?_
  rintro _ _ _ _ X6 rfl _ _ _
  refine sk [.int (-1)] rfl <| og 28 X6 d11_16 (by decide) ?_
  exact o_iret X6 d11_28 rfl (by decide) (by decide) (fun _ CC => rfl)
theorem rm_au41 (G : GL l Z a0 zc fmt) (F0 : ex1 Z h0 pa1) (F1 : fd0 Z h0 pa1 (.int 0)) (F2 : fd1 Z h0 pa1 (.ref pa2)) (F3 : av1 Z h0 pa2 pk1 1 [.int pi1]) (nk_pi1_46 : ¬ pi1 = (46 : Int32)) : M8 l Z 3 0 0 42 #[.ref pa1, .int 46] h0 n0 [] [] (Q9 Z  h0) := by
  refine mi B8 ef6 (hEW G) fun s X0 hsf0 n0le => ?_
  have := F0.l
  have := F3.l
  refine oA 1 X0 d8_0 rfl rfl <| oI 2 X0 d8_1 rfl rfl <| oA 3 X0 d8_2 rfl rfl <| mV 6 2 X0 F0 (rm_au6 G F0 F1 F2 F3) (u7 G) all0 d8_3 rfl rfl rfl lr (by decide) all0 ?_
  rintro _ _ _ _ X1 rfl K1 _ _
  refine sk [.int 1, .int 46, .ref pa1] rfl <| oc 7 (v := 1) X1 d8_6 rfl (by decide) <| o_isub 8 (v := 0) X1 d8_7 rfl (by decide) ?_
  have f2 := F0.keep K1
  have f3 := F1.k0 K1
  have f4 := F2.k0 K1
  have f5 := F3.k0 K1
  refine mV 11 0 X1 f2 (rm_au40 G f2 f3 f4 f5 nk_pi1_46) (u12 G) all0 d8_8 rfl rfl rfl lr (by decide) all0 ?_
  rintro _ _ _ _ X6 rfl _ _ _
  refine sk [.int (-1)] rfl ?_
  exact o_iret X6 d8_11 rfl (by decide) (by decide) (fun _ CC => rfl)
theorem rm_au42 (G : GL l Z a0 zc fmt) (F0 : ex1 Z h0 pa1) (F1 : fd0 Z h0 pa1 (.int 0)) (F2 : fd1 Z h0 pa1 (.ref pa2)) (F3 : av1 Z h0 pa2 pk1 2 [.int pi100, .int pi1]) (nk_pi1_46 : ¬ pi1 = (46 : Int32)) (nk_pi1_47 : ¬ pi1 = (47 : Int32)) (pc_0 : pi100 = (47 : Int32)) : M7 l Z 6 2 5 115 #[.ref pa1] h0 n0 [] [] (Q10 Z  h0) := by
  refine mi B7 ef7 (hEW G) fun s X0 hsf0 n0le => ?_
  have := F0.l
  have := F3.l
  refine oA 1 X0 d7_0 rfl rfl <| oA 2 X0 d7_1 rfl rfl <| ob 4 (v := 47) X0 d7_2 rfl (by decide) <| mV 7 1 X0 F0 (rm_au31 G F0 F1 F2 F3 nk_pi1_47 pc_0) (u13 G) all0 d7_4 rfl rfl rfl lr (by decide) all0 ?_
  rintro _ _ _ _ X1 rfl K1 _ _
  refine sk [i0, .ref pa1] rfl <| oc 8 (v := 1) X1 d7_7 rfl (by decide) <| o_iadd 9 (v := 1) X1 d7_8 rfl (by decide) ?_
  have f2 := F0.keep K1
  have f3 := F1.k0 K1
  have f4 := F2.k0 K1
  have f5 := F3.k0 K1
  refine mV 12 0 X1 f2 (rm_au38 G f2 f3 f4 f5) (u18 G) all0 d7_9 rfl rfl rfl lr (by decide) all0 ?_
  rintro _ _ _ _ X6 ⟨xa1_7, _, _, rfl, q10, q11, q12, _, q14, _, _, _⟩ _ _ _
  refine sk [.ref xa1_7] rfl <| oV 13 (l' := #[rr pa1, rr xa1_7, uu]) X6 d7_12 rfl rfl rfl <| oA 14 X6 d7_13 rfl rfl <| ob 16 (v := 46) X6 d7_14 rfl (by decide) <| mV 19 0 X6 q10 (rm_au41 G q10 q11 q12 q14 nk_pi1_46) (u13 G) all0 d7_16 rfl rfl rfl lr (by decide) all0 ?_
  rintro _ _ _ _ X18 rfl _ _ _
  refine sk [.int (-1)] rfl <| oT 20 (l' := #[rr pa1, rr xa1_7, ii (-1)]) X18 d7_19 rfl rfl <| oI 21 X18 d7_20 rfl rfl <| on 24 X18 d7_21 rfl ((if0 _ _).trans (tlt (by decide)).2.1) <| o_aconstNull 25 X18 d7_24 rfl <| og 35 X18 d7_25 (by decide) ?_
  exact oR X18 d7_35 rfl rfl rfl (by decide) (by decide) (fun _ CC => rfl)
theorem rm_au43 (G : GL l Z a0 zc fmt) (F0 : av1 Z h0 pa1 pk1 1 [.int pi1]) (pc_0 : pi1 = (46 : Int32)) : M13 l Z 1 0 0 13 #[.ref pa1, .int 46, i0] h0 n0 [] [] (Q3 Z  h0) := by
  refine mi B13 ef10 (hEW G) fun s X0 hsf0 n0le => ?_
  have := F0.l
  refine oI 1 X0 d13_0 rfl rfl <| mS 4 0 X0 (rm_au8 G (by decide) (by decide)) (u9 G) all0 d13_1 rfl rfl rfl lr (by decide) all0 ?_
  rintro _ _ _ _ X1 rfl K1 _ _
  refine sk [.int 1] rfl <| oy 9 X1 d13_4 (by decide) ((if0 _ _).trans (feq (by decide)).2) <| oI 10 X1 d13_9 rfl rfl <| oA 11 X1 d13_10 rfl rfl ?_
  have f2 := F0.k0 K1
  refine oL 12 X1 f2 d13_11 rfl <| oc 13 (v := 1) X1 d13_12 rfl (by decide) <| o_isub 14 (v := 0) X1 d13_13 rfl (by decide) <| mS 17 0 X1 (rm_au9 G (by decide)) (u10 G) all0 d13_14 rfl rfl rfl lr (by decide) all0 ?_
  rintro _ _ _ _ X3 rfl K3 _ _
  refine sk [i0] rfl <| oT 18 (l' := #[rr pa1, ii 46, ii 0, ii 0]) X3 d13_17 rfl rfl <| oI 19 X3 d13_18 rfl rfl <| on 22 X3 d13_19 rfl ((if0 _ _).trans (flt (by decide)).1) <| oA 23 X3 d13_22 rfl rfl <| oI 24 X3 d13_23 rfl rfl ?_
  have f4 := f2.k0 K3
  refine oB 25 (v := (.int pi1)) X3 f4 ⟨by decide, by decide⟩ rfl d13_24 rfl <| oI 26 X3 d13_25 rfl rfl <| o_i2b 27 (v := 46) X3 d13_26 rfl (by decide) <| oN 30 X3 d13_27 rfl (teq pc_0).2 <| oI 31 X3 d13_30 rfl rfl ?_
  exact o_iret X3 d13_31 rfl (by decide) (by decide) (fun _ CC => rfl)
theorem rm_au44 (G : GL l Z a0 zc fmt) (F0 : ex1 Z h0 pa1) (F1 : fd0 Z h0 pa1 (.int 0)) (F2 : fd1 Z h0 pa1 (.ref pa2)) (F3 : av1 Z h0 pa2 pk1 1 [.int pi1]) (pc_0 : pi1 = (46 : Int32)) : M11 l Z 2 0 0 28 #[.ref pa1, .int 46, i0] h0 n0 [] [] (Q3 Z  h0) := by
  refine mi B11 ef9 (hEW G) fun s X0 hsf0 n0le => ?_
  have := F0.l
  have := F3.l
  refine oA 1 X0 d11_0 rfl rfl <| mV 4 0 X0 F0 (rm_au7 G F1 (by decide)) (u8 G) all0 d11_1 rfl rfl rfl lr (by decide) all0 ?_
  rintro _ _ _ _ X1 rfl K1 _ _
  refine sk [.int 1] rfl <| on 7 X1 d11_4 rfl ((if0 _ _).trans (feq (by decide)).1) <| oA 8 X1 d11_7 rfl rfl ?_
  have f2 := F2.k0 K1
  refine oF 11 X1 (w33 G) Via.refl f2 d11_8 rfl ?_
  intro _ X4
  refine oI 12 X4 d11_11 rfl rfl <| oI 13 X4 d11_12 rfl rfl ?_
  have f5 := F3.k0 K1
  refine mS 16 0 X4 (rm_au43 G f5 pc_0) (u11 G) all0 d11_13 rfl rfl rfl lr (by decide) all0 ?_
  rintro _ _ _ _ X6 rfl _ _ _
  refine sk [i0] rfl <| og 28 X6 d11_16 (by decide) ?_
  exact o_iret X6 d11_28 rfl (by decide) (by decide) (fun _ CC => rfl)
theorem rm_au45 (G : GL l Z a0 zc fmt) (F0 : ex1 Z h0 pa1) (F1 : fd0 Z h0 pa1 (.int 0)) (F2 : fd1 Z h0 pa1 (.ref pa2)) (F3 : av1 Z h0 pa2 pk1 1 [.int pi1]) (pc_0 : pi1 = (46 : Int32)) : M8 l Z 3 0 0 42 #[.ref pa1, .int 46] h0 n0 [] [] (Q3 Z  h0) := by
  refine mi B8 ef6 (hEW G) fun s X0 hsf0 n0le => ?_
  have := F0.l
  have := F3.l
  refine oA 1 X0 d8_0 rfl rfl <| oI 2 X0 d8_1 rfl rfl <| oA 3 X0 d8_2 rfl rfl <| mV 6 2 X0 F0 (rm_au6 G F0 F1 F2 F3) (u7 G) all0 d8_3 rfl rfl rfl lr (by decide) all0 ?_
  rintro _ _ _ _ X1 rfl K1 _ _
  refine sk [.int 1, .int 46, .ref pa1] rfl <| oc 7 (v := 1) X1 d8_6 rfl (by decide) <| o_isub 8 (v := 0) X1 d8_7 rfl (by decide) ?_
  have f2 := F0.keep K1
  have f3 := F1.k0 K1
  have f4 := F2.k0 K1
  have f5 := F3.k0 K1
  refine mV 11 0 X1 f2 (rm_au44 G f2 f3 f4 f5 pc_0) (u12 G) all0 d8_8 rfl rfl rfl lr (by decide) all0 ?_
  rintro _ _ _ _ X6 rfl _ _ _
  refine sk [i0] rfl ?_
  exact o_iret X6 d8_11 rfl (by decide) (by decide) (fun _ CC => rfl)
theorem rm_au46 (G : GL l Z a0 zc fmt) (F0 : ex1 Z h0 pa1) (F1 : fd0 Z h0 pa1 (.int 0)) (F2 : fd1 Z h0 pa1 (.ref pa2)) (F3 : av1 Z h0 pa2 pk1 2 [.int pi100, .int pi101]) (pc_0 : ¬ pi101 = (47 : Int32)) (pc_1 : pi100 = (47 : Int32)) (pc_2 : pi101 = (46 : Int32)) : M7 l Z 6 4 9 115 #[.ref pa1] h0 n0 [] [] (Q8 Z  h0) := by
  refine mi B7 ef7 (hEW G) fun s X0 hsf0 n0le => ?_
  have := F0.l
  have := F3.l
  refine oA 1 X0 d7_0 rfl rfl <| oA 2 X0 d7_1 rfl rfl <| ob 4 (v := 47) X0 d7_2 rfl (by decide) <| mV 7 1 X0 F0 (rm_au31 G F0 F1 F2 F3 pc_0 pc_1) (u13 G) all0 d7_4 rfl rfl rfl lr (by decide) all0 ?_
  rintro _ _ _ _ X1 rfl K1 _ _
  refine sk [i0, .ref pa1] rfl <| oc 8 (v := 1) X1 d7_7 rfl (by decide) <| o_iadd 9 (v := 1) X1 d7_8 rfl (by decide) ?_
  have f2 := F0.keep K1
  have f3 := F1.k0 K1
  have f4 := F2.k0 K1
  have f5 := F3.k0 K1
  refine mV 12 0 X1 f2 (rm_au38 G f2 f3 f4 f5) (u18 G) all0 d7_9 rfl rfl rfl lr (by decide) all0 ?_
  rintro _ _ _ _ X6 ⟨xa1_7, _, _, rfl, q10, q11, q12, _, q14, q15, _, _⟩ _ _ _
  refine sk [.ref xa1_7] rfl <| oV 13 (l' := #[rr pa1, rr xa1_7, uu]) X6 d7_12 rfl rfl rfl <| oA 14 X6 d7_13 rfl rfl <| ob 16 (v := 46) X6 d7_14 rfl (by decide) <| mV 19 0 X6 q10 (rm_au45 G q10 q11 q12 q14 pc_2) (u13 G) all0 d7_16 rfl rfl rfl lr (by decide) all0 ?_
  rintro _ _ _ _ X18 rfl K18 _ _
  refine sk [i0] rfl <| oT 20 (l' := #[rr pa1, rr xa1_7, ii 0]) X18 d7_19 rfl rfl <| oI 21 X18 d7_20 rfl rfl <| oy 28 X18 d7_21 (by decide) ((if0 _ _).trans (flt (by decide)).2.1) <| oA 29 X18 d7_28 rfl rfl <| oI 30 X18 d7_29 rfl rfl <| oc 31 (v := 1) X18 d7_30 rfl (by decide) <| o_iadd 32 (v := 1) X18 d7_31 rfl (by decide) ?_
  have f19 := q10.keep K18
  have f20 := q11.k0 K18
  have f21 := q12.k0 K18
  have f22 := q14.k0 K18
  have f23 := q15.keep K18
  refine mV 35 0 X18 f19 (rm_au17 G f19 f20 f21 f22 f23) (u18 G) all0 d7_32 rfl rfl rfl lr (by decide) all0 ?_
  rintro _ _ _ _ X24 ⟨xa1_25, xa2_26, xk1_27, rfl, q28, q29, q30, q31, _⟩ _ _ _
  refine sk [.ref xa1_25] rfl ?_
  exact oR X24 d7_35 rfl rfl rfl (by decide) (by decide) (fun _ CC => ⟨xa1_25, xa2_26, xk1_27, rfl, q28, q29, q30, q31, by omega⟩)
theorem rm_au47 (G : GL l Z a0 zc fmt) (F0 : av1 Z h0 pa1 pk1 2 [.int pi1, .int pi2]) (pc_0 : pi2 = (47 : Int32)) : M13 l Z 1 0 0 13 #[.ref pa1, .int 47, .int 1] h0 n0 [] [] (Q5 Z  h0) := by
  refine mi B13 ef10 (hEW G) fun s X0 hsf0 n0le => ?_
  have := F0.l
  refine oI 1 X0 d13_0 rfl rfl <| mS 4 0 X0 (rm_au8 G (by decide) (by decide)) (u9 G) all0 d13_1 rfl rfl rfl lr (by decide) all0 ?_
  rintro _ _ _ _ X1 rfl K1 _ _
  refine sk [.int 1] rfl <| oy 9 X1 d13_4 (by decide) ((if0 _ _).trans (feq (by decide)).2) <| oI 10 X1 d13_9 rfl rfl <| oA 11 X1 d13_10 rfl rfl ?_
  have f2 := F0.k0 K1
  refine oL 12 X1 f2 d13_11 rfl <| oc 13 (v := 1) X1 d13_12 rfl (by decide) <| o_isub 14 (v := 1) X1 d13_13 rfl (by decide) <| mS 17 0 X1 (rm_au9 G (by decide)) (u10 G) all0 d13_14 rfl rfl rfl lr (by decide) all0 ?_
  rintro _ _ _ _ X3 rfl K3 _ _
  refine sk [.int 1] rfl <| oT 18 (l' := #[rr pa1, ii 47, ii 1, ii 1]) X3 d13_17 rfl rfl <| oI 19 X3 d13_18 rfl rfl <| on 22 X3 d13_19 rfl ((if0 _ _).trans (flt (by decide)).1) <| oA 23 X3 d13_22 rfl rfl <| oI 24 X3 d13_23 rfl rfl ?_
  have f4 := f2.k0 K3
  refine oB 25 (v := (.int pi2)) X3 f4 ⟨by decide, by decide⟩ rfl d13_24 rfl <| oI 26 X3 d13_25 rfl rfl <| o_i2b 27 (v := 47) X3 d13_26 rfl (by decide) <| oN 30 X3 d13_27 rfl (teq pc_0).2 <| oI 31 X3 d13_30 rfl rfl ?_
  exact o_iret X3 d13_31 rfl (by decide) (by decide) (fun _ CC => rfl)
theorem rm_au48 (G : GL l Z a0 zc fmt) (F0 : ex1 Z h0 pa1) (F1 : fd0 Z h0 pa1 (.int 0)) (F2 : fd1 Z h0 pa1 (.ref pa2)) (F3 : av1 Z h0 pa2 pk1 2 [.int pi1, .int pi2]) (pc_0 : pi2 = (47 : Int32)) : M11 l Z 2 0 0 28 #[.ref pa1, .int 47, .int 1] h0 n0 [] [] (Q5 Z  h0) := by
  refine mi B11 ef9 (hEW G) fun s X0 hsf0 n0le => ?_
  have := F0.l
  have := F3.l
  refine oA 1 X0 d11_0 rfl rfl <| mV 4 0 X0 F0 (rm_au7 G F1 (by decide)) (u8 G) all0 d11_1 rfl rfl rfl lr (by decide) all0 ?_
  rintro _ _ _ _ X1 rfl K1 _ _
  refine sk [.int 1] rfl <| on 7 X1 d11_4 rfl ((if0 _ _).trans (feq (by decide)).1) <| oA 8 X1 d11_7 rfl rfl ?_
  have f2 := F2.k0 K1
  refine oF 11 X1 (w33 G) Via.refl f2 d11_8 rfl ?_
  intro _ X4
  refine oI 12 X4 d11_11 rfl rfl <| oI 13 X4 d11_12 rfl rfl ?_
  have f5 := F3.k0 K1
  refine mS 16 0 X4 (rm_au47 G f5 pc_0) (u11 G) all0 d11_13 rfl rfl rfl lr (by decide) all0 ?_
  rintro _ _ _ _ X6 rfl _ _ _
  refine sk [.int 1] rfl <| og 28 X6 d11_16 (by decide) ?_
  exact o_iret X6 d11_28 rfl (by decide) (by decide) (fun _ CC => rfl)
theorem rm_au49 (G : GL l Z a0 zc fmt) (F0 : ex1 Z h0 pa1) (F1 : fd0 Z h0 pa1 (.int 0)) (F2 : fd1 Z h0 pa1 (.ref pa2)) (F3 : av1 Z h0 pa2 pk1 2 [.int pi1, .int pi2]) (pc_0 : pi2 = (47 : Int32)) : M8 l Z 3 0 0 42 #[.ref pa1, .int 47] h0 n0 [] [] (Q5 Z  h0) := by
  refine mi B8 ef6 (hEW G) fun s X0 hsf0 n0le => ?_
  have := F0.l
  have := F3.l
  refine oA 1 X0 d8_0 rfl rfl <| oI 2 X0 d8_1 rfl rfl <| oA 3 X0 d8_2 rfl rfl <| mV 6 2 X0 F0 (rm_au28 G F0 F1 F2 F3) (u7 G) all0 d8_3 rfl rfl rfl lr (by decide) all0 ?_
  rintro _ _ _ _ X1 rfl K1 _ _
  refine sk [.int 2, .int 47, .ref pa1] rfl <| oc 7 (v := 1) X1 d8_6 rfl (by decide) <| o_isub 8 (v := 1) X1 d8_7 rfl (by decide) ?_
  have f2 := F0.keep K1
  have f3 := F1.k0 K1
  have f4 := F2.k0 K1
  have f5 := F3.k0 K1
  refine mV 11 0 X1 f2 (rm_au48 G f2 f3 f4 f5 pc_0) (u12 G) all0 d8_8 rfl rfl rfl lr (by decide) all0 ?_
  rintro _ _ _ _ X6 rfl _ _ _
  refine sk [.int 1] rfl ?_
  exact o_iret X6 d8_11 rfl (by decide) (by decide) (fun _ CC => rfl)
theorem rm_au50 (G : GL l Z a0 zc fmt) (F0 : ex1 Z h0 pa1) (F1 : fd0 Z h0 pa1 (.int 0)) (F2 : fd1 Z h0 pa1 (.ref pa2)) (F3 : av1 Z h0 pa2 pk1 2 ps_pa2) (F4 : ex0 Z h0 pa2) : M17 l Z 2 2 4 29 #[.ref pa1, .int 2, .int 2] h0 n0 [] [] (Q8 Z  h0) := by
  refine mi B17 ef13 (hEW G) fun s X0 hsf0 n0le => ?_
  have := F0.l
  have := F3.l
  refine oA 1 X0 d17_0 rfl rfl <| mV 4 0 X0 F0 (rm_au28 G F0 F1 F2 F3) (u7 G) all0 d17_1 rfl rfl rfl lr (by decide) all0 ?_
  rintro _ _ _ _ X1 rfl K1 _ _
  refine sk [.int 2] rfl <| oT 5 (l' := #[rr pa1, ii 2, ii 2, ii 2, uu]) X1 d17_4 rfl rfl <| oI 6 X1 d17_5 rfl rfl <| oI 7 X1 d17_6 rfl rfl <| oI 8 X1 d17_7 rfl rfl <| mS 11 0 X1 (rm_au14 G (by decide) (by decide) (by decide)) (u15 G) all0 d17_8 rfl rfl rfl lr (by decide) all0 ?_
  rintro _ _ _ _ X2 rfl K2 _ _
  refine sk [] rfl <| oI 12 X2 d17_11 rfl rfl <| oy 22 X2 d17_12 (by decide) ((if0 _ _).trans (feq (by decide)).2) <| oI 23 X2 d17_22 rfl rfl <| oI 24 X2 d17_23 rfl rfl <| o_isub 25 (v := 0) X2 d17_24 rfl (by decide) <| oS 27 (l' := #[rr pa1, ii 2, ii 2, ii 2, ii 0]) X2 d17_25 rfl rfl <| oA 28 X2 d17_27 rfl rfl ?_
  have f3 := (F1.k0 K1).k0 K2
  have f4 := (F0.keep K1).keep K2
  refine mV 31 0 X2 f4 (rm_au7 G f3 (by decide)) (u8 G) all0 d17_28 rfl rfl rfl lr (by decide) all0 ?_
  rintro _ _ _ _ X5 rfl K5 _ _
  refine sk [.int 1] rfl <| on 34 X5 d17_31 rfl ((if0 _ _).trans (feq (by decide)).1) <| oA 35 X5 d17_34 rfl rfl ?_
  have f6 := ((F2.k0 K1).k0 K2).k0 K5
  refine oF 38 X5 (w33 G) Via.refl f6 d17_35 rfl ?_
  intro _ X8
  refine oI 39 X8 d17_38 rfl rfl <| oi 41 X8 d17_39 rfl rfl ?_
  have f9 := ((F4.keep K1).keep K2).keep K5
  refine mS 44 0 X8 (rm_au15 G f9 (by decide)) (u16 G) all0 d17_41 rfl rfl rfl lr (by decide) all0 ?_
  rintro _ _ _ _ X10 ⟨xa1_11, xa2_12, xk1_13, rfl, q14, q15, q16, q17, _⟩ _ _ _
  refine sk [.ref xa1_11] rfl <| og 57 X10 d17_44 (by decide) ?_
  exact oR X10 d17_57 rfl rfl rfl (by decide) (by decide) (fun _ CC => ⟨xa1_11, xa2_12, xk1_13, rfl, q14, q15, q16, q17, by omega⟩)
theorem rm_au51 (G : GL l Z a0 zc fmt) (F0 : ex1 Z h0 pa1) (F1 : fd0 Z h0 pa1 (.int 0)) (F2 : fd1 Z h0 pa1 (.ref pa2)) (F3 : av1 Z h0 pa2 pk1 2 ps_pa2) (F4 : ex0 Z h0 pa2) : M16 l Z 3 2 4 45 #[.ref pa1, .int 2] h0 n0 [] [] (Q8 Z  h0) := by
  refine mi B16 ef6 (hEW G) fun s X0 hsf0 n0le => ?_
  have := F0.l
  have := F3.l
  refine oA 1 X0 d16_0 rfl rfl <| oI 2 X0 d16_1 rfl rfl <| oA 3 X0 d16_2 rfl rfl <| mV 6 2 X0 F0 (rm_au28 G F0 F1 F2 F3) (u7 G) all0 d16_3 rfl rfl rfl lr (by decide) all0 ?_
  rintro _ _ _ _ X1 rfl K1 _ _
  refine sk [.int 2, .int 2, .ref pa1] rfl ?_
  have f2 := F0.keep K1
  have f3 := F1.k0 K1
  have f4 := F2.k0 K1
  have f5 := F3.k0 K1
  have f6 := F4.keep K1
  refine mV 9 0 X1 f2 (rm_au50 G f2 f3 f4 f5 f6) (u17 G) all0 d16_6 rfl rfl rfl lr (by decide) all0 ?_
  rintro _ _ _ _ X7 ⟨xa1_8, xa2_9, xk1_10, rfl, q11, q12, q13, q14, _⟩ _ _ _
  refine sk [.ref xa1_8] rfl ?_
  exact oR X7 d16_9 rfl rfl rfl (by decide) (by decide) (fun _ CC => ⟨xa1_8, xa2_9, xk1_10, rfl, q11, q12, q13, q14, by omega⟩)
theorem rm_au52 (G : GL l Z a0 zc fmt) (F0 : ex1 Z h0 pa1) (F1 : fd0 Z h0 pa1 (.int 0)) (F2 : fd1 Z h0 pa1 (.ref pa2)) (F3 : av1 Z h0 pa2 pk1 2 [.int pi100, .int pi101]) (F4 : ex0 Z h0 pa2) (pc_0 : pi101 = (47 : Int32)) : M7 l Z 4 2 4 58 #[.ref pa1] h0 n0 [] [] (Q10 Z  h0) := by
  refine mi B7 ef7 (hEW G) fun s X0 hsf0 n0le => ?_
  have := F0.l
  have := F3.l
  refine oA 1 X0 d7_0 rfl rfl <| oA 2 X0 d7_1 rfl rfl <| ob 4 (v := 47) X0 d7_2 rfl (by decide) <| mV 7 1 X0 F0 (rm_au49 G F0 F1 F2 F3 pc_0) (u13 G) all0 d7_4 rfl rfl rfl lr (by decide) all0 ?_
  rintro _ _ _ _ X1 rfl K1 _ _
  refine sk [.int 1, .ref pa1] rfl <| oc 8 (v := 1) X1 d7_7 rfl (by decide) <| o_iadd 9 (v := 2) X1 d7_8 rfl (by decide) ?_
  have f2 := F0.keep K1
  have f3 := F1.k0 K1
  have f4 := F2.k0 K1
  have f5 := F3.k0 K1
  have f6 := F4.keep K1
  refine mV 12 0 X1 f2 (rm_au51 G f2 f3 f4 f5 f6) (u18 G) all0 d7_9 rfl rfl rfl lr (by decide) all0 ?_
  rintro _ _ _ _ X7 ⟨xa1_8, _, _, rfl, q11, q12, q13, q14, _⟩ _ _ _
  refine sk [.ref xa1_8] rfl <| oV 13 (l' := #[rr pa1, rr xa1_8, uu]) X7 d7_12 rfl rfl rfl <| oA 14 X7 d7_13 rfl rfl <| ob 16 (v := 46) X7 d7_14 rfl (by decide) <| mV 19 0 X7 q11 (rm_au21 G q11 q12 q13 q14) (u13 G) all0 d7_16 rfl rfl rfl lr (by decide) all0 ?_
  rintro _ _ _ _ X16 rfl _ _ _
  refine sk [.int (-1)] rfl <| oT 20 (l' := #[rr pa1, rr xa1_8, ii (-1)]) X16 d7_19 rfl rfl <| oI 21 X16 d7_20 rfl rfl <| on 24 X16 d7_21 rfl ((if0 _ _).trans (tlt (by decide)).2.1) <| o_aconstNull 25 X16 d7_24 rfl <| og 35 X16 d7_25 (by decide) ?_
  exact oR X16 d7_35 rfl rfl rfl (by decide) (by decide) (fun _ CC => rfl)
def Q18 (Z : State) (b1 : Addr) (b2 : ClassId) (b3 b4 : Int32) (h0 : Heap) (v : Option Value) (h : Heap) (vm : Vm) : Prop := v = some (.int 3) ∧ av1 Z h b1 b2 3 [.int 47, .int (b3.toInt8.toInt32), .int (b4.toInt8.toInt32)] ∧ ex0 Z h b1
theorem rm_au53 (G : GL l Z a0 zc fmt) (F0 : av0 Z h0 pa1 pk1 3 [.int 47, .int pi1, .int pi2]) (F1 : av1 Z h0 pa2 pk2 3 [i0, i0, i0]) (F2 : ex0 Z h0 pa2) (rg_pi1 : ¬ pi1 < 0 ∧ ¬ (255 : Int32) < pi1) (rg_pi2 : ¬ pi2 < 0 ∧ ¬ (255 : Int32) < pi2) (ne : NE pa1 pa2 ∧ n0 ≤ pa2) : M5 l Z 0 0 0 0 #[.ref pa1, i0, .ref pa2, i0, .int 3] h0 n0 [pa2] [pa2] (Q18 Z pa2 pk2 pi1 pi2 h0) := by
  refine mi B5 ef5 (hEW G) fun s X0 hsf0 n0le => ?_
  have := F0.l
  have := F1.l
  have sf_pa2 := hsf0 pa2 (by simp)
  refine oc 1 (v := 0) X0 d5_0 rfl (by decide) <| oS 3 (l' := #[rr pa1, ii 0, rr pa2, ii 0, ii 3, ii 0, uu]) X0 d5_1 rfl rfl <| oi 5 X0 d5_3 rfl rfl <| oi 7 X0 d5_5 rfl rfl <| oN 10 X0 d5_7 rfl (tlt (by decide)).2.1 <| oA 11 X0 d5_10 rfl rfl <| oI 12 X0 d5_11 rfl rfl <| oC 13 (v := (.int 47)) X0 F0 ⟨by decide, by decide⟩ rfl d5_12 rfl <| oS 15 (l' := #[rr pa1, ii 0, rr pa2, ii 0, ii 3, ii 0, ii 47]) X0 d5_13 rfl rfl <| oi 17 X0 d5_15 rfl rfl <| o_sipush 20 (v := 255) X0 d5_17 rfl (by decide) <| oY 26 X0 d5_20 (by decide) (flt (by decide)).2.2.2 ?_
  refine oA 27 X0 d5_26 rfl rfl <| oI 28 X0 d5_27 rfl rfl <| oi 30 X0 d5_28 rfl rfl <| o_i2b 31 (v := 47) X0 d5_30 rfl (by decide) <| sB 32 0 47 X0 F1 (by decide) (lb rfl) (by decide) d5_31 rfl (by omega) (Or.inl (by simp)) sf_pa2 ?_
  rintro _ _ X1 ⟨_, _, W1⟩ C1 V1
  have := W1.size
  have V2 := V1.as [.int 47, i0, i0] rfl
  refine oJ 35 1 #[rr pa1, ii 1, rr pa2, ii 0, ii 3, ii 0, ii 47] X1 d5_32 rfl rfl (by decide) rfl <| oJ 38 1 #[rr pa1, ii 1, rr pa2, ii 1, ii 3, ii 0, ii 47] X1 d5_35 rfl rfl (by decide) rfl <| oJ 41 1 #[rr pa1, ii 1, rr pa2, ii 1, ii 3, ii 1, ii 47] X1 d5_38 rfl rfl (by decide) rfl <| og 3 X1 d5_41 (by decide) <| oi 5 X1 d5_3 rfl rfl <| oi 7 X1 d5_5 rfl rfl <| oN 10 X1 d5_7 rfl (tlt (by decide)).2.1 <| oA 11 X1 d5_10 rfl rfl <| oI 12 X1 d5_11 rfl rfl ?_
  have f3 := F0.oth W1 (by omega)
  refine oC 13 (v := (.int pi1)) X1 f3 ⟨by decide, by decide⟩ rfl d5_12 rfl <| oS 15 (l' := #[rr pa1, ii 1, rr pa2, ii 1, ii 3, ii 1, ii pi1]) X1 d5_13 rfl rfl <| oi 17 X1 d5_15 rfl rfl <| o_sipush 20 (v := 255) X1 d5_17 rfl (by decide) <| oY 26 X1 d5_20 (by decide) (flt rg_pi1.2).2.2.2 <| oA 27 X1 d5_26 rfl rfl <| oI 28 X1 d5_27 rfl rfl <| oi 30 X1 d5_28 rfl rfl <| o_i2b 31 (v := (pi1.toInt8.toInt32)) X1 d5_30 rfl rfl ?_
  have f5 := C1.safe (own_lt (by omega)) sf_pa2
  refine sB 32 1 (pi1.toInt8.toInt32) X1 V2 (by decide) (lb rfl) (own_narB _) d5_31 rfl (by omega) (Or.inl (by simp)) f5 ?_
  rintro _ _ X4 ⟨_, _, W4⟩ C4 V4
  have := W4.size
  have V6 := V4.as [.int 47, .int (pi1.toInt8.toInt32), i0] rfl
  refine oJ 35 2 #[rr pa1, ii 2, rr pa2, ii 1, ii 3, ii 1, ii pi1] X4 d5_32 rfl rfl (by decide) rfl <| oJ 38 2 #[rr pa1, ii 2, rr pa2, ii 2, ii 3, ii 1, ii pi1] X4 d5_35 rfl rfl (by decide) rfl <| oJ 41 2 #[rr pa1, ii 2, rr pa2, ii 2, ii 3, ii 2, ii pi1] X4 d5_38 rfl rfl (by decide) rfl <| og 3 X4 d5_41 (by decide) <| oi 5 X4 d5_3 rfl rfl <| oi 7 X4 d5_5 rfl rfl <| oN 10 X4 d5_7 rfl (tlt (by decide)).2.1 <| oA 11 X4 d5_10 rfl rfl <| oI 12 X4 d5_11 rfl rfl ?_
  have f7 := f3.oth W4 (by omega)
  refine oC 13 (v := (.int pi2)) X4 f7 ⟨by decide, by decide⟩ rfl d5_12 rfl <| oS 15 (l' := #[rr pa1, ii 2, rr pa2, ii 2, ii 3, ii 2, ii pi2]) X4 d5_13 rfl rfl <| oi 17 X4 d5_15 rfl rfl <| o_sipush 20 (v := 255) X4 d5_17 rfl (by decide) <| oY 26 X4 d5_20 (by decide) (flt rg_pi2.2).2.2.2 <| oA 27 X4 d5_26 rfl rfl <| oI 28 X4 d5_27 rfl rfl <| oi 30 X4 d5_28 rfl rfl <| o_i2b 31 (v := (pi2.toInt8.toInt32)) X4 d5_30 rfl rfl ?_
  have f9 := C4.safe (own_lt (by omega)) f5
  refine sB 32 2 (pi2.toInt8.toInt32) X4 V6 (by decide) (lb rfl) (own_narB _) d5_31 rfl (by omega) (Or.inl (by simp)) f9 ?_
  rintro _ _ X8 ⟨_, _, W8⟩ _ V8
  have := W8.size
  have V10 := V8.as [.int 47, .int (pi1.toInt8.toInt32), .int (pi2.toInt8.toInt32)] rfl
  refine oJ 35 3 #[rr pa1, ii 3, rr pa2, ii 2, ii 3, ii 2, ii pi2] X8 d5_32 rfl rfl (by decide) rfl <| oJ 38 3 #[rr pa1, ii 3, rr pa2, ii 3, ii 3, ii 2, ii pi2] X8 d5_35 rfl rfl (by decide) rfl <| oJ 41 3 #[rr pa1, ii 3, rr pa2, ii 3, ii 3, ii 3, ii pi2] X8 d5_38 rfl rfl (by decide) rfl <| og 3 X8 d5_41 (by decide) <| oi 5 X8 d5_3 rfl rfl <| oi 7 X8 d5_5 rfl rfl <| oY 44 X8 d5_7 (by decide) (flt (by decide)).2.1 <| oi 46 X8 d5_44 rfl rfl ?_
  have f11 := ((F2.wr W1).wr W4).wr W8
  exact o_iret X8 d5_46 rfl (by decide) (by decide) (fun _ CC => ⟨rfl, V10, f11⟩)
def Q19 (Z : State) (b1 b2 : Int32) (h0 : Heap) (v : Option Value) (h : Heap) (vm : Vm) : Prop := ∃ (xa1 : Addr) (xk1 : ClassId), v = some (.ref xa1) ∧ av1 Z h xa1 xk1 3 [.int 47, .int (b1.toInt8.toInt32), .int (b2.toInt8.toInt32)] ∧ ex0 Z h xa1 ∧ Safe Z EL0 vm h xa1 ∧ h0.size ≤ xa1 ∧ h.size > xa1
theorem rm_au54 (G : GL l Z a0 zc fmt) (F0 : av0 Z h0 pa1 pk1 3 [.int 47, .int pi1, .int pi2]) (rg_pi1 : ¬ pi1 < 0 ∧ ¬ (255 : Int32) < pi1) (rg_pi2 : ¬ pi2 < 0 ∧ ¬ (255 : Int32) < pi2) : M4 l Z 1 1 3 18 #[.ref pa1, i0, .int 3] h0 n0 [] [] (Q19 Z pi1 pi2 h0) := by
  refine mi B4 ef4 (hEW G) fun s X0 hsf0 n0le => ?_
  have l1 := F0.l
  refine oI 1 X0 d4_0 rfl rfl <| nP (aty := .byte) 3 3 X0 (w24 G) d4_1 rfl (by decide) had_byte ?_
  intro _ h1 b1 k1 X1 _ l1 E1 V1 A1 _ S1
  have V2 : av1 Z h1 b1 k1 3 [i0, i0, i0] := V1.pad (pad_rep [] (.int (0 : Int32)) 3)
  refine oV 4 (l' := #[rr pa1, ii 0, ii 3, rr b1, uu, uu]) X1 d4_3 rfl rfl rfl <| oA 5 X1 d4_4 rfl rfl <| oI 6 X1 d4_5 rfl rfl <| oA 7 X1 d4_6 rfl rfl <| oc 8 (v := 0) X1 d4_7 rfl (by decide) <| oI 9 X1 d4_8 rfl rfl ?_
  have f3 := F0.ext E1
  refine mS 12 0 X1 (rm_au53 G f3 V2 A1 rg_pi1 rg_pi2 (by omega)) (u1 G) (sS (by omega) S1 all0) d4_9 rfl rfl rfl lr (by decide) (aR (by omega) all0) ?_
  rintro _ _ _ _ X4 ⟨rfl, q5, q6⟩ _ _ C4
  refine sk [.int 3] rfl <| oS 14 (l' := #[rr pa1, ii 0, ii 3, rr b1, ii 3, uu]) X4 d4_12 rfl rfl <| oi 16 X4 d4_14 rfl rfl <| oI 17 X4 d4_16 rfl rfl <| oY 57 X4 d4_17 (by decide) (teq (by decide)).1 <| oA 58 X4 d4_57 rfl rfl ?_
  have f7 := C4.safe (own_lt (by omega)) S1
  exact oR X4 d4_58 rfl rfl rfl (by decide) (by decide) (fun _ CC => ⟨b1, k1, rfl, q5, q6, (CC.safe (own_lt (by omega)) f7), by omega⟩)
theorem rm_au55 (G : GL l Z a0 zc fmt) (F0 : av1 Z h0 pa1 pk1 3 ps_pa1) : M6 l Z 0 0 0 0 #[.ref pa1, .int 3] h0 n0 [] [] (Q3 Z  h0) := by
  refine mi B6 ef6 (hEW G) fun s X0 hsf0 n0le => ?_
  have := F0.l
  refine oI 1 X0 d6_0 rfl rfl <| oA 2 X0 d6_1 rfl rfl <| oL 3 X0 F0 d6_2 rfl <| o_isub 4 (v := 0) X0 d6_3 rfl (by decide) <| ob 6 (v := 31) X0 d6_4 rfl (by decide) <| o_iushr 7 (v := 0) X0 d6_6 rfl (by decide) <| o_i2b 8 (v := 0) X0 d6_7 rfl (by decide) ?_
  exact o_nret (y := (0 : Int32)) (t := .byte) X0 d6_8 rfl (by decide) (by simp) (by decide) (by decide) (fun _ CC => rfl)
def Q20 (Z : State) (b1 : Addr) (b2 b3 : Int32) (h0 : Heap) (v : Option Value) (h : Heap) (vm : Vm) : Prop := ∃ (xa1 : Addr) (xk1 : ClassId), v = none ∧ ex1 Z h b1 ∧ fd0 Z h b1 (.int 0) ∧ fd1 Z h b1 (.ref xa1) ∧ av1 Z h xa1 xk1 3 [.int 47, .int (b2.toInt8.toInt32), .int (b3.toInt8.toInt32)] ∧ ex0 Z h xa1 ∧ Safe Z EL0 vm h xa1 ∧ h0.size ≤ xa1 ∧ h.size > xa1
theorem rm_au56 (G : GL l Z a0 zc fmt) (F0 : ex1 Z h0 pa1) (F1 : fd0 Z h0 pa1 (.int 0)) (F2 : fd1 Z h0 pa1 .null) (F3 : av0 Z h0 pa2 pk1 3 [.int 47, .int pi1, .int pi2]) (rg_pi1 : ¬ pi1 < 0 ∧ ¬ (255 : Int32) < pi1) (rg_pi2 : ¬ pi2 < 0 ∧ ¬ (255 : Int32) < pi2) (ne : NE pa1 pa2 ∧ n0 ≤ pa1) : M3 l Z 2 1 3 35 #[.ref pa1, .ref pa2, i0, .int 3, .null] h0 n0 [pa1] [pa1] (Q20 Z pa1 pi1 pi2 h0) := by
  refine mi B3 ef3 (hEW G) fun s X0 hsf0 n0le => ?_
  have := F0.l
  have := F3.l
  have sf_pa1 := hsf0 pa1 (by simp)
  refine oA 1 X0 d3_0 rfl rfl <| o_initO 4 (W := 0) X0 (w16 G) (w17 G) (w18 G) rfl (by decide) (Nat.le_of_eq rfl) (by decide) d3_1 rfl ?_
  intro _ X2
  refine oI 5 X2 d3_4 rfl rfl <| oy 27 X2 d3_5 (by decide) ((if0 _ _).trans (feq (by decide)).2) <| oG 30 X2 (w19 G) Via.refl ((sg1 G).ext X2.old.2) d3_27 rfl ?_
  intro _ X4
  refine on 33 X4 d3_30 rfl ((if0 _ _).trans (feq (hzc G)).1) <| oA 34 X4 d3_33 rfl rfl <| oI 35 X4 d3_34 rfl rfl <| oI 36 X4 d3_35 rfl rfl <| mS 39 0 X4 (rm_au54 G F3 rg_pi1 rg_pi2) (u2 G) all0 d3_36 rfl rfl rfl lr (by decide) all0 ?_
  rintro _ _ _ _ X5 ⟨xa1_6, xk1_7, rfl, q8, q9, q10, _⟩ K5 _ C5
  refine sk [.ref xa1_6] rfl <| oU 41 (l' := #[rr pa1, rr pa2, ii 0, ii 3, .val .null, rr xa1_6]) X5 d3_39 rfl rfl rfl <| oA 42 X5 d3_41 rfl rfl <| oa 44 X5 d3_42 rfl rfl <| oI 45 X5 d3_44 rfl rfl <| mS 48 1 X5 (rm_au55 G q8) (u3 G) all0 d3_45 rfl rfl rfl lr (by decide) all0 ?_
  rintro _ _ _ _ X12 rfl K12 _ C12
  refine sk [i0, .ref pa1] rfl ?_
  have f13 := (F1.k0 K5).k0 K12
  have f14 := (F0.keep K5).keep K12
  have f16 := C12.safe (own_lt (by omega)) (C5.safe (own_lt (by omega)) sf_pa1)
  refine oP 51 (v' := (.int 0)) X12 (w31 G) Via.refl f13 f14 (Or.inr ⟨(w32 G), rfl, rfl⟩) (w7 G) fd_0 rfl rfl d3_48 rfl (by omega) (Or.inl (by simp)) f16 ?_
  intro _ _ X15 W15 C15
  have := W15.size
  have f17 := f13.same W15
  refine oA 52 X15 d3_51 rfl rfl <| oa 54 X15 d3_52 rfl rfl ?_
  have f18 := ((F2.k0 K5).k0 K12).other W15 (Or.inr (sn0 G))
  have f19 := f14.wr W15
  have f21 := C15.safe (own_lt (by omega)) f16
  refine oP 57 (v' := (.ref xa1_6)) X15 (w33 G) Via.refl f18 f19 (Or.inr ⟨(w34 G), rfl, rfl⟩) (w7 G) fd_1 rfl rfl d3_54 rfl (by omega) (Or.inl (by simp)) f21 ?_
  intro _ _ X20 W20 C20
  have := W20.size
  have f22 := f18.same W20
  have f23 := f19.wr W20
  have f24 := f17.other W20 (Or.inr (sn1 G))
  have f25 := ((q8.k0 K12).oth W15 (by omega)).oth W20 (by omega)
  have f26 := ((q9.keep K12).wr W15).wr W20
  have f27 := C20.safe (own_lt (by omega)) (C15.safe (own_lt (by omega)) (C12.safe (own_lt (by omega)) q10))
  exact oz X20 d3_57 rfl (by decide) (by decide) (fun _ CC => ⟨xa1_6, xk1_7, rfl, f23, f24, f22, f25, f26, (CC.safe (own_lt (by omega)) f27), by omega⟩)
theorem rm_au57 (G : GL l Z a0 zc fmt) (F0 : ex1 Z h0 pa1) (F1 : fd0 Z h0 pa1 (.int 0)) (F2 : fd1 Z h0 pa1 .null) (F3 : av0 Z h0 pa2 pk1 3 [.int 47, .int pi1, .int pi2]) (rg_pi1 : ¬ pi1 < 0 ∧ ¬ (255 : Int32) < pi1) (rg_pi2 : ¬ pi2 < 0 ∧ ¬ (255 : Int32) < pi2) (ne : NE pa1 pa2 ∧ n0 ≤ pa1) : M2 l Z 3 1 3 52 #[.ref pa1, .ref pa2] h0 n0 [pa1] [pa1] (Q20 Z pa1 pi1 pi2 h0) := by
  refine mi B2 ef2 (hEW G) fun s X0 hsf0 n0le => ?_
  have := F0.l
  have := F3.l
  have sf_pa1 := hsf0 pa1 (by simp)
  refine oA 1 X0 d2_0 rfl rfl <| oA 2 X0 d2_1 rfl rfl <| oc 3 (v := 0) X0 d2_2 rfl (by decide) <| oA 4 X0 d2_3 rfl rfl <| oL 5 X0 F3 d2_4 rfl <| o_aconstNull 6 X0 d2_5 rfl <| mP 9 0 X0 (rm_au56 G F0 F1 F2 F3 rg_pi1 rg_pi2 (by omega)) (u4 G) (sS (by omega) sf_pa1 all0) d2_6 rfl rfl rfl lr (by decide) (aI (by omega) (by simp) all0) ?_
  rintro _ _ _ _ X1 ⟨xa1_2, xk1_3, rfl, q4, q5, q6, q7, q8, q9, _⟩ _ _ _
  refine sk [] rfl ?_
  exact oz X1 d2_9 rfl (by decide) (by decide) (fun _ CC => ⟨xa1_2, xk1_3, rfl, q4, q5, q6, q7, q8, (CC.safe (own_lt (by omega)) q9), by omega⟩)
def Q21 (Z : State) (h0 : Heap) (v : Option Value) (h : Heap) (vm : Vm) : Prop := v = some (.int 3)
theorem rm_au58 (G : GL l Z a0 zc fmt) (F0 : ex1 Z h0 pa1) (F1 : fd0 Z h0 pa1 (.int 0)) (F2 : fd1 Z h0 pa1 (.ref pa2)) (F3 : av1 Z h0 pa2 pk1 3 ps_pa2) : M9 l Z 1 0 0 13 #[.ref pa1] h0 n0 [] [] (Q21 Z  h0) := by
  refine mi B9 ef8 (hEW G) fun s X0 hsf0 n0le => ?_
  have := F0.l
  have := F3.l
  refine oA 1 X0 d9_0 rfl rfl <| oF 4 X0 (w33 G) Via.refl F2 d9_1 rfl ?_
  intro _ X2
  refine oL 5 X2 F3 d9_4 rfl <| oA 6 X2 d9_5 rfl rfl <| mV 9 1 X2 F0 (rm_au5 G F1) (u6 G) all0 d9_6 rfl rfl rfl lr (by decide) all0 ?_
  rintro _ _ _ _ X3 rfl _ _ _
  refine sk [i0, .int 3] rfl <| o_ishr 10 (v := 3) X3 d9_9 rfl (by decide) ?_
  exact o_iret X3 d9_10 rfl (by decide) (by decide) (fun _ CC => rfl)
theorem rm_au59 (G : GL l Z a0 zc fmt) (F0 : av1 Z h0 pa1 pk1 3 [.int pi1, .int pi2, .int pi3]) (nk_pi2_47 : ¬ pi2 = (47 : Int32)) (nk_pi3_47 : ¬ pi3 = (47 : Int32)) (pc_0 : pi1 = (47 : Int32)) : M13 l Z 1 0 0 13 #[.ref pa1, .int 47, .int 2] h0 n0 [] [] (Q3 Z  h0) := by
  refine mi B13 ef10 (hEW G) fun s X0 hsf0 n0le => ?_
  have := F0.l
  refine oI 1 X0 d13_0 rfl rfl <| mS 4 0 X0 (rm_au8 G (by decide) (by decide)) (u9 G) all0 d13_1 rfl rfl rfl lr (by decide) all0 ?_
  rintro _ _ _ _ X1 rfl K1 _ _
  refine sk [.int 1] rfl <| oy 9 X1 d13_4 (by decide) ((if0 _ _).trans (feq (by decide)).2) <| oI 10 X1 d13_9 rfl rfl <| oA 11 X1 d13_10 rfl rfl ?_
  have f2 := F0.k0 K1
  refine oL 12 X1 f2 d13_11 rfl <| oc 13 (v := 1) X1 d13_12 rfl (by decide) <| o_isub 14 (v := 2) X1 d13_13 rfl (by decide) <| mS 17 0 X1 (rm_au9 G (by decide)) (u10 G) all0 d13_14 rfl rfl rfl lr (by decide) all0 ?_
  rintro _ _ _ _ X3 rfl K3 _ _
  refine sk [.int 2] rfl <| oT 18 (l' := #[rr pa1, ii 47, ii 2, ii 2]) X3 d13_17 rfl rfl <| oI 19 X3 d13_18 rfl rfl <| on 22 X3 d13_19 rfl ((if0 _ _).trans (flt (by decide)).1) <| oA 23 X3 d13_22 rfl rfl <| oI 24 X3 d13_23 rfl rfl ?_
  have f4 := f2.k0 K3
  refine oB 25 (v := (.int pi3)) X3 f4 ⟨by decide, by decide⟩ rfl d13_24 rfl <| oI 26 X3 d13_25 rfl rfl <| o_i2b 27 (v := 47) X3 d13_26 rfl (by decide) <| oY 32 X3 d13_27 (by decide) (feq nk_pi3_47).2 <| oJ 35 1 #[rr pa1, ii 47, ii 2, ii 1] X3 d13_32 rfl rfl (by decide) rfl <| og 18 X3 d13_35 (by decide) <| oI 19 X3 d13_18 rfl rfl <| on 22 X3 d13_19 rfl ((if0 _ _).trans (flt (by decide)).1) <| oA 23 X3 d13_22 rfl rfl <| oI 24 X3 d13_23 rfl rfl <| oB 25 (v := (.int pi2)) X3 f4 ⟨by decide, by decide⟩ rfl d13_24 rfl <| oI 26 X3 d13_25 rfl rfl ?_
  refine o_i2b 27 (v := 47) X3 d13_26 rfl (by decide) <| oY 32 X3 d13_27 (by decide) (feq nk_pi2_47).2 <| oJ 35 0 #[rr pa1, ii 47, ii 2, ii 0] X3 d13_32 rfl rfl (by decide) rfl <| og 18 X3 d13_35 (by decide) <| oI 19 X3 d13_18 rfl rfl <| on 22 X3 d13_19 rfl ((if0 _ _).trans (flt (by decide)).1) <| oA 23 X3 d13_22 rfl rfl <| oI 24 X3 d13_23 rfl rfl <| oB 25 (v := (.int pi1)) X3 f4 ⟨by decide, by decide⟩ rfl d13_24 rfl <| oI 26 X3 d13_25 rfl rfl <| o_i2b 27 (v := 47) X3 d13_26 rfl (by decide) <| oN 30 X3 d13_27 rfl (teq pc_0).2 ?_
  refine oI 31 X3 d13_30 rfl rfl ?_
  exact o_iret X3 d13_31 rfl (by decide) (by decide) (fun _ CC => rfl)
theorem rm_au60 (G : GL l Z a0 zc fmt) (F0 : ex1 Z h0 pa1) (F1 : fd0 Z h0 pa1 (.int 0)) (F2 : fd1 Z h0 pa1 (.ref pa2)) (F3 : av1 Z h0 pa2 pk1 3 [.int pi1, .int pi2, .int pi3]) (nk_pi2_47 : ¬ pi2 = (47 : Int32)) (nk_pi3_47 : ¬ pi3 = (47 : Int32)) (pc_0 : pi1 = (47 : Int32)) : M11 l Z 2 0 0 28 #[.ref pa1, .int 47, .int 2] h0 n0 [] [] (Q3 Z  h0) := by
  refine mi B11 ef9 (hEW G) fun s X0 hsf0 n0le => ?_
  have := F0.l
  have := F3.l
  refine oA 1 X0 d11_0 rfl rfl <| mV 4 0 X0 F0 (rm_au7 G F1 (by decide)) (u8 G) all0 d11_1 rfl rfl rfl lr (by decide) all0 ?_
  rintro _ _ _ _ X1 rfl K1 _ _
  refine sk [.int 1] rfl <| on 7 X1 d11_4 rfl ((if0 _ _).trans (feq (by decide)).1) <| oA 8 X1 d11_7 rfl rfl ?_
  have f2 := F2.k0 K1
  refine oF 11 X1 (w33 G) Via.refl f2 d11_8 rfl ?_
  intro _ X4
  refine oI 12 X4 d11_11 rfl rfl <| oI 13 X4 d11_12 rfl rfl ?_
  have f5 := F3.k0 K1
  refine mS 16 0 X4 (rm_au59 G f5 nk_pi2_47 nk_pi3_47 pc_0) (u11 G) all0 d11_13 rfl rfl rfl lr (by decide) all0 ?_
  rintro _ _ _ _ X6 rfl _ _ _
  refine sk [i0] rfl <| og 28 X6 d11_16 (by decide) ?_
  exact o_iret X6 d11_28 rfl (by decide) (by decide) (fun _ CC => rfl)
theorem rm_au61 (G : GL l Z a0 zc fmt) (F0 : ex1 Z h0 pa1) (F1 : fd0 Z h0 pa1 (.int 0)) (F2 : fd1 Z h0 pa1 (.ref pa2)) (F3 : av1 Z h0 pa2 pk1 3 [.int pi1, .int pi2, .int pi3]) (nk_pi2_47 : ¬ pi2 = (47 : Int32)) (nk_pi3_47 : ¬ pi3 = (47 : Int32)) (pc_0 : pi1 = (47 : Int32)) : M8 l Z 3 0 0 42 #[.ref pa1, .int 47] h0 n0 [] [] (Q3 Z  h0) := by
  refine mi B8 ef6 (hEW G) fun s X0 hsf0 n0le => ?_
  have := F0.l
  have := F3.l
  refine oA 1 X0 d8_0 rfl rfl <| oI 2 X0 d8_1 rfl rfl <| oA 3 X0 d8_2 rfl rfl <| mV 6 2 X0 F0 (rm_au58 G F0 F1 F2 F3) (u7 G) all0 d8_3 rfl rfl rfl lr (by decide) all0 ?_
  rintro _ _ _ _ X1 rfl K1 _ _
  refine sk [.int 3, .int 47, .ref pa1] rfl <| oc 7 (v := 1) X1 d8_6 rfl (by decide) <| o_isub 8 (v := 2) X1 d8_7 rfl (by decide) ?_
  have f2 := F0.keep K1
  have f3 := F1.k0 K1
  have f4 := F2.k0 K1
  have f5 := F3.k0 K1
  refine mV 11 0 X1 f2 (rm_au60 G f2 f3 f4 f5 nk_pi2_47 nk_pi3_47 pc_0) (u12 G) all0 d8_8 rfl rfl rfl lr (by decide) all0 ?_
  rintro _ _ _ _ X6 rfl _ _ _
  refine sk [i0] rfl ?_
  exact o_iret X6 d8_11 rfl (by decide) (by decide) (fun _ CC => rfl)
def Q22 (Z : State) (b1 b2 : Int32) (h0 : Heap) (v : Option Value) (h : Heap) (vm : Vm) : Prop := ∃ (xa1 : Addr) (xk1 : ClassId), v = some (.ref xa1) ∧ av1 Z h xa1 xk1 2 [.int b1, .int b2] ∧ ex0 Z h xa1 ∧ Safe Z EL0 vm h xa1 ∧ h0.size ≤ xa1 ∧ h.size > xa1
theorem rm_au62 (G : GL l Z a0 zc fmt) (F0 : av1 Z h0 pa1 pk1 3 [.int pi1, .int pi2, .int pi3]) : M22 l Z 1 1 2 40 #[.ref pa1, .int 1, .int 3] h0 n0 [] [] (Q22 Z pi2 pi3 h0) := by
  refine mi B22 ef13 (hEW G) fun s X0 hsf0 n0le => ?_
  have := F0.l
  refine oI 1 X0 d22_0 rfl rfl <| oI 2 X0 d22_1 rfl rfl <| mS 5 0 X0 (rm_au32 G (by decide)) (u20 G) all0 d22_2 rfl rfl rfl lr (by decide) all0 ?_
  rintro _ _ _ _ X1 rfl K1 _ _
  refine sk [] rfl <| oI 6 X1 d22_5 rfl rfl <| oI 7 X1 d22_6 rfl rfl <| o_isub 8 (v := 2) X1 d22_7 rfl (by decide) <| oT 9 (l' := #[rr pa1, ii 1, ii 3, ii 2, uu]) X1 d22_8 rfl rfl <| oI 10 X1 d22_9 rfl rfl <| nP (aty := .byte) 12 2 X1 (w24 G) d22_10 rfl (by decide) had_byte ?_
  intro _ h2 b2 k2 X2 _ _ E2 V2 A2 _ S2
  have V3 : av1 Z h2 b2 k2 2 [i0, i0] := V2.pad (pad_rep [] (.int (0 : Int32)) 2)
  refine oU 14 (l' := #[rr pa1, ii 1, ii 3, ii 2, rr b2]) X2 d22_12 rfl rfl rfl <| oA 15 X2 d22_14 rfl rfl <| oI 16 X2 d22_15 rfl rfl <| oa 18 X2 d22_16 rfl rfl <| oc 19 (v := 0) X2 d22_18 rfl (by decide) <| oA 20 X2 d22_19 rfl rfl ?_
  have f4 := (F0.k0 K1).ext E2
  refine oL 21 X2 f4 d22_20 rfl <| oI 22 X2 d22_21 rfl rfl <| o_isub 23 (v := 2) X2 d22_22 rfl (by decide) <| oI 24 X2 d22_23 rfl rfl <| mS 27 4 X2 (rm_au9 G (by decide)) (u21 G) all0 d22_24 rfl rfl rfl lr (by decide) all0 ?_
  rintro _ _ _ _ X5 rfl K5 _ C5
  refine sk [.int 2, i0, .ref b2, .int 1, .ref pa1] rfl ?_
  have f6 := f4.k0 K5
  have f7 := V3.k0 K5
  have f8 := C5.safe (own_lt (by omega)) S2
  refine o_cp 30 (us := [.int pi2, .int pi3]) (vr := [.int pi2, .int pi3]) (W := 0) X5 (w111 G) (w114 G) (w112 G) (w113 G) f6 f7 (Or.inl ⟨rfl, rfl⟩) (by decide) (by decide) (by decide) (by decide) (by decide) rfl (Nat.le_of_ble_eq_true rfl) rfl d22_27 rfl rfl (by decide) (Nat.le_of_eq rfl) (by decide) (by omega) (Or.inr (by omega)) f8 ?_
  intro _ _ X9 K9 C9 V9
  have := K9.1
  refine oa 32 X9 d22_30 rfl rfl ?_
  have f10 := (A2.keep K5).keep K9
  have f11 := C9.safe (own_lt (by omega)) f8
  exact oR X9 d22_32 rfl rfl rfl (by decide) (by decide) (fun _ CC => ⟨b2, k2, rfl, V9, f10, (CC.safe (own_lt (by omega)) f11), by omega⟩)
theorem rm_au63 (G : GL l Z a0 zc fmt) (F0 : av1 Z h0 pa1 pk1 3 [.int pi1, .int pi2, .int pi3]) : M21 l Z 2 1 2 56 #[.ref pa1, .int 1, .int 3] h0 n0 [] [] (Q22 Z pi2 pi3 h0) := by
  refine mi B21 ef9 (hEW G) fun s X0 hsf0 n0le => ?_
  have := F0.l
  refine oI 1 X0 d21_0 rfl rfl <| oy 10 X0 d21_1 (by decide) ((if0 _ _).trans (feq (by decide)).2) <| oA 11 X0 d21_10 rfl rfl <| oI 12 X0 d21_11 rfl rfl <| oI 13 X0 d21_12 rfl rfl <| mS 16 0 X0 (rm_au62 G F0) (u22 G) all0 d21_13 rfl rfl rfl lr (by decide) all0 ?_
  rintro _ _ _ _ X1 ⟨xa1_2, xk1_3, rfl, q4, q5, q6, _⟩ _ _ _
  refine sk [.ref xa1_2] rfl ?_
  exact oR X1 d21_16 rfl rfl rfl (by decide) (by decide) (fun _ CC => ⟨xa1_2, xk1_3, rfl, q4, q5, (CC.safe (own_lt (by omega)) q6), by omega⟩)
def Q23 (Z : State) (b1 b2 : Int32) (h0 : Heap) (v : Option Value) (h : Heap) (vm : Vm) : Prop := ∃ (xa1 : Addr) (xa2 : Addr) (xk1 : ClassId), v = some (.ref xa1) ∧ ex1 Z h xa1 ∧ fd0 Z h xa1 (.int 0) ∧ fd1 Z h xa1 (.ref xa2) ∧ Safe Z EL0 vm h xa1 ∧ av1 Z h xa2 xk1 2 [.int b1, .int b2] ∧ ex0 Z h xa2 ∧ Safe Z EL0 vm h xa2 ∧ h0.size ≤ xa1 ∧ h.size > xa1 ∧ h0.size ≤ xa2 ∧ h.size > xa2 ∧ NE xa1 xa2
theorem rm_au64 (G : GL l Z a0 zc fmt) (F0 : av1 Z h0 pa1 pk1 3 [.int pi1, .int pi2, .int pi3]) : M20 l Z 3 2 6 72 #[.ref pa1, .int 1, .int 2] h0 n0 [] [] (Q23 Z pi2 pi3 h0) := by
  refine mi B20 ef9 (hEW G) fun s X0 hsf0 n0le => ?_
  have l1 := F0.l
  refine oI 1 X0 d20_0 rfl rfl <| oy 7 X0 d20_1 (by decide) ((if0 _ _).trans (feq (by decide)).2) <| o_new 10 X0 (w99 G) (w7 G) (w8 G) d20_7 rfl (by decide) (by decide) ?_
  intro _ h1 b1 X1 _ l1 E1 A1 D1 _ _ S1
  have f2 : fd0 Z h1 b1 (.int 0) := D1 (Or.inr (w32 G)) fd_0
  have f3 : fd1 Z h1 b1 .null := D1 (Or.inr (w34 G)) fd_1
  refine oD 11 X1 d20_10 rfl rfl <| oA 12 X1 d20_11 rfl rfl <| oI 13 X1 d20_12 rfl rfl <| oI 14 X1 d20_13 rfl rfl <| oI 15 X1 d20_14 rfl rfl <| o_iadd 16 (v := 3) X1 d20_15 rfl (by decide) ?_
  have f4 := F0.ext E1
  refine mS 19 2 X1 (rm_au63 G f4) (u23 G) all0 d20_16 rfl rfl rfl lr (by decide) all0 ?_
  rintro _ _ _ _ X5 ⟨xa1_6, xk1_7, rfl, q8, q9, q10, _⟩ K5 _ C5
  refine sk [.ref xa1_6, .ref b1, .ref b1] rfl <| oc 20 (v := 0) X5 d20_19 rfl (by decide) ?_
  have f12 := A1.keep K5
  have f13 := f2.k0 K5
  have f14 := f3.k0 K5
  have f15 := C5.safe (own_lt (by omega)) S1
  refine mP 23 1 X5 (rm_au35 G f12 f13 f14 (by omega)) (u24 G) (sS (by omega) f15 all0) d20_20 rfl rfl rfl lr (by decide) (aR (by omega) all0) ?_
  rintro _ _ _ _ X16 ⟨rfl, q17, q18, q19⟩ K16 _ C16
  refine sk [.ref b1] rfl ?_
  have f20 := C16.safe (own_lt (by omega)) f15
  have f21 := q8.k1 K16 (by omega)
  have f22 := q9.keep K16
  have f23 := C16.safe (own_lt (by omega)) q10
  exact oR X16 d20_23 rfl rfl rfl (by decide) (by decide) (fun _ CC => ⟨b1, xa1_6, xk1_7, rfl, q17, q18, q19, (CC.safe (own_lt (by omega)) f20), f21, f22, (CC.safe (own_lt (by omega)) f23), by omega⟩)
theorem rm_au65 (G : GL l Z a0 zc fmt) (F0 : ex1 Z h0 pa1) (F1 : fd0 Z h0 pa1 (.int 0)) (F2 : fd1 Z h0 pa1 (.ref pa2)) (F3 : av1 Z h0 pa2 pk1 3 [.int pi1, .int pi2, .int pi3]) : M17 l Z 4 2 6 86 #[.ref pa1, .int 1, .int 3] h0 n0 [] [] (Q23 Z pi2 pi3 h0) := by
  refine mi B17 ef13 (hEW G) fun s X0 hsf0 n0le => ?_
  have := F0.l
  have := F3.l
  refine oA 1 X0 d17_0 rfl rfl <| mV 4 0 X0 F0 (rm_au58 G F0 F1 F2 F3) (u7 G) all0 d17_1 rfl rfl rfl lr (by decide) all0 ?_
  rintro _ _ _ _ X1 rfl K1 _ _
  refine sk [.int 3] rfl <| oT 5 (l' := #[rr pa1, ii 1, ii 3, ii 3, uu]) X1 d17_4 rfl rfl <| oI 6 X1 d17_5 rfl rfl <| oI 7 X1 d17_6 rfl rfl <| oI 8 X1 d17_7 rfl rfl <| mS 11 0 X1 (rm_au14 G (by decide) (by decide) (by decide)) (u15 G) all0 d17_8 rfl rfl rfl lr (by decide) all0 ?_
  rintro _ _ _ _ X2 rfl K2 _ _
  refine sk [] rfl <| oI 12 X2 d17_11 rfl rfl <| oy 22 X2 d17_12 (by decide) ((if0 _ _).trans (feq (by decide)).2) <| oI 23 X2 d17_22 rfl rfl <| oI 24 X2 d17_23 rfl rfl <| o_isub 25 (v := 2) X2 d17_24 rfl (by decide) <| oS 27 (l' := #[rr pa1, ii 1, ii 3, ii 3, ii 2]) X2 d17_25 rfl rfl <| oA 28 X2 d17_27 rfl rfl ?_
  have f3 := (F1.k0 K1).k0 K2
  have f4 := (F0.keep K1).keep K2
  refine mV 31 0 X2 f4 (rm_au7 G f3 (by decide)) (u8 G) all0 d17_28 rfl rfl rfl lr (by decide) all0 ?_
  rintro _ _ _ _ X5 rfl K5 _ _
  refine sk [.int 1] rfl <| on 34 X5 d17_31 rfl ((if0 _ _).trans (feq (by decide)).1) <| oA 35 X5 d17_34 rfl rfl ?_
  have f6 := ((F2.k0 K1).k0 K2).k0 K5
  refine oF 38 X5 (w33 G) Via.refl f6 d17_35 rfl ?_
  intro _ X8
  refine oI 39 X8 d17_38 rfl rfl <| oi 41 X8 d17_39 rfl rfl ?_
  have f9 := ((F3.k0 K1).k0 K2).k0 K5
  refine mS 44 0 X8 (rm_au64 G f9) (u16 G) all0 d17_41 rfl rfl rfl lr (by decide) all0 ?_
  rintro _ _ _ _ X10 ⟨xa1_11, xa2_12, xk1_13, rfl, q14, q15, q16, q17, q18, q19, q20, _⟩ _ _ _
  refine sk [.ref xa1_11] rfl <| og 57 X10 d17_44 (by decide) ?_
  exact oR X10 d17_57 rfl rfl rfl (by decide) (by decide) (fun _ CC => ⟨xa1_11, xa2_12, xk1_13, rfl, q14, q15, q16, (CC.safe (own_lt (by omega)) q17), q18, q19, (CC.safe (own_lt (by omega)) q20), by omega⟩)
theorem rm_au66 (G : GL l Z a0 zc fmt) (F0 : ex1 Z h0 pa1) (F1 : fd0 Z h0 pa1 (.int 0)) (F2 : fd1 Z h0 pa1 (.ref pa2)) (F3 : av1 Z h0 pa2 pk1 3 [.int pi1, .int pi2, .int pi3]) : M16 l Z 5 2 6 102 #[.ref pa1, .int 1] h0 n0 [] [] (Q23 Z pi2 pi3 h0) := by
  refine mi B16 ef6 (hEW G) fun s X0 hsf0 n0le => ?_
  have := F0.l
  have := F3.l
  refine oA 1 X0 d16_0 rfl rfl <| oI 2 X0 d16_1 rfl rfl <| oA 3 X0 d16_2 rfl rfl <| mV 6 2 X0 F0 (rm_au58 G F0 F1 F2 F3) (u7 G) all0 d16_3 rfl rfl rfl lr (by decide) all0 ?_
  rintro _ _ _ _ X1 rfl K1 _ _
  refine sk [.int 3, .int 1, .ref pa1] rfl ?_
  have f2 := F0.keep K1
  have f3 := F1.k0 K1
  have f4 := F2.k0 K1
  have f5 := F3.k0 K1
  refine mV 9 0 X1 f2 (rm_au65 G f2 f3 f4 f5) (u17 G) all0 d16_6 rfl rfl rfl lr (by decide) all0 ?_
  rintro _ _ _ _ X6 ⟨xa1_7, xa2_8, xk1_9, rfl, q10, q11, q12, q13, q14, q15, q16, _⟩ _ _ _
  refine sk [.ref xa1_7] rfl ?_
  exact oR X6 d16_9 rfl rfl rfl (by decide) (by decide) (fun _ CC => ⟨xa1_7, xa2_8, xk1_9, rfl, q10, q11, q12, (CC.safe (own_lt (by omega)) q13), q14, q15, (CC.safe (own_lt (by omega)) q16), by omega⟩)
theorem rm_au67 (G : GL l Z a0 zc fmt) (F0 : av1 Z h0 pa1 pk1 2 [.int pi1, .int pi2]) (nk_pi1_46 : ¬ pi1 = (46 : Int32)) (nk_pi2_46 : ¬ pi2 = (46 : Int32)) : M13 l Z 1 0 0 13 #[.ref pa1, .int 46, .int 1] h0 n0 [] [] (Q9 Z  h0) := by
  refine mi B13 ef10 (hEW G) fun s X0 hsf0 n0le => ?_
  have := F0.l
  refine oI 1 X0 d13_0 rfl rfl <| mS 4 0 X0 (rm_au8 G (by decide) (by decide)) (u9 G) all0 d13_1 rfl rfl rfl lr (by decide) all0 ?_
  rintro _ _ _ _ X1 rfl K1 _ _
  refine sk [.int 1] rfl <| oy 9 X1 d13_4 (by decide) ((if0 _ _).trans (feq (by decide)).2) <| oI 10 X1 d13_9 rfl rfl <| oA 11 X1 d13_10 rfl rfl ?_
  have f2 := F0.k0 K1
  refine oL 12 X1 f2 d13_11 rfl <| oc 13 (v := 1) X1 d13_12 rfl (by decide) <| o_isub 14 (v := 1) X1 d13_13 rfl (by decide) <| mS 17 0 X1 (rm_au9 G (by decide)) (u10 G) all0 d13_14 rfl rfl rfl lr (by decide) all0 ?_
  rintro _ _ _ _ X3 rfl K3 _ _
  refine sk [.int 1] rfl <| oT 18 (l' := #[rr pa1, ii 46, ii 1, ii 1]) X3 d13_17 rfl rfl <| oI 19 X3 d13_18 rfl rfl <| on 22 X3 d13_19 rfl ((if0 _ _).trans (flt (by decide)).1) <| oA 23 X3 d13_22 rfl rfl <| oI 24 X3 d13_23 rfl rfl ?_
  have f4 := f2.k0 K3
  refine oB 25 (v := (.int pi2)) X3 f4 ⟨by decide, by decide⟩ rfl d13_24 rfl <| oI 26 X3 d13_25 rfl rfl <| o_i2b 27 (v := 46) X3 d13_26 rfl (by decide) <| oY 32 X3 d13_27 (by decide) (feq nk_pi2_46).2 <| oJ 35 0 #[rr pa1, ii 46, ii 1, ii 0] X3 d13_32 rfl rfl (by decide) rfl <| og 18 X3 d13_35 (by decide) <| oI 19 X3 d13_18 rfl rfl <| on 22 X3 d13_19 rfl ((if0 _ _).trans (flt (by decide)).1) <| oA 23 X3 d13_22 rfl rfl <| oI 24 X3 d13_23 rfl rfl <| oB 25 (v := (.int pi1)) X3 f4 ⟨by decide, by decide⟩ rfl d13_24 rfl <| oI 26 X3 d13_25 rfl rfl ?_
  refine o_i2b 27 (v := 46) X3 d13_26 rfl (by decide) <| oY 32 X3 d13_27 (by decide) (feq nk_pi1_46).2 <| oJ 35 (-1) #[rr pa1, ii 46, ii 1, ii (-1)] X3 d13_32 rfl rfl (by decide) rfl <| og 18 X3 d13_35 (by decide) <| oI 19 X3 d13_18 rfl rfl <| oy 38 X3 d13_19 (by decide) ((if0 _ _).trans (tlt (by decide)).1) <| oc 39 (v := (-1)) X3 d13_38 rfl (by decide) ?_
  exact o_iret X3 d13_39 rfl (by decide) (by decide) (fun _ CC => rfl)
theorem rm_au68 (G : GL l Z a0 zc fmt) (F0 : ex1 Z h0 pa1) (F1 : fd0 Z h0 pa1 (.int 0)) (F2 : fd1 Z h0 pa1 (.ref pa2)) (F3 : av1 Z h0 pa2 pk1 2 [.int pi1, .int pi2]) (nk_pi1_46 : ¬ pi1 = (46 : Int32)) (nk_pi2_46 : ¬ pi2 = (46 : Int32)) : M11 l Z 2 0 0 28 #[.ref pa1, .int 46, .int 1] h0 n0 [] [] (Q9 Z  h0) := by
  refine mi B11 ef9 (hEW G) fun s X0 hsf0 n0le => ?_
  have := F0.l
  have := F3.l
  refine oA 1 X0 d11_0 rfl rfl <| mV 4 0 X0 F0 (rm_au7 G F1 (by decide)) (u8 G) all0 d11_1 rfl rfl rfl lr (by decide) all0 ?_
  rintro _ _ _ _ X1 rfl K1 _ _
  refine sk [.int 1] rfl <| on 7 X1 d11_4 rfl ((if0 _ _).trans (feq (by decide)).1) <| oA 8 X1 d11_7 rfl rfl ?_
  have f2 := F2.k0 K1
  refine oF 11 X1 (w33 G) Via.refl f2 d11_8 rfl ?_
  intro _ X4
  refine oI 12 X4 d11_11 rfl rfl <| oI 13 X4 d11_12 rfl rfl ?_
  have f5 := F3.k0 K1
  refine mS 16 0 X4 (rm_au67 G f5 nk_pi1_46 nk_pi2_46) (u11 G) all0 d11_13 rfl rfl rfl lr (by decide) all0 ?_
  rintro _ _ _ _ X6 rfl _ _ _
  refine sk [.int (-1)] rfl <| og 28 X6 d11_16 (by decide) ?_
  exact o_iret X6 d11_28 rfl (by decide) (by decide) (fun _ CC => rfl)
theorem rm_au69 (G : GL l Z a0 zc fmt) (F0 : ex1 Z h0 pa1) (F1 : fd0 Z h0 pa1 (.int 0)) (F2 : fd1 Z h0 pa1 (.ref pa2)) (F3 : av1 Z h0 pa2 pk1 2 [.int pi1, .int pi2]) (nk_pi1_46 : ¬ pi1 = (46 : Int32)) (nk_pi2_46 : ¬ pi2 = (46 : Int32)) : M8 l Z 3 0 0 42 #[.ref pa1, .int 46] h0 n0 [] [] (Q9 Z  h0) := by
  refine mi B8 ef6 (hEW G) fun s X0 hsf0 n0le => ?_
  have := F0.l
  have := F3.l
  refine oA 1 X0 d8_0 rfl rfl <| oI 2 X0 d8_1 rfl rfl <| oA 3 X0 d8_2 rfl rfl <| mV 6 2 X0 F0 (rm_au28 G F0 F1 F2 F3) (u7 G) all0 d8_3 rfl rfl rfl lr (by decide) all0 ?_
  rintro _ _ _ _ X1 rfl K1 _ _
  refine sk [.int 2, .int 46, .ref pa1] rfl <| oc 7 (v := 1) X1 d8_6 rfl (by decide) <| o_isub 8 (v := 1) X1 d8_7 rfl (by decide) ?_
  have f2 := F0.keep K1
  have f3 := F1.k0 K1
  have f4 := F2.k0 K1
  have f5 := F3.k0 K1
  refine mV 11 0 X1 f2 (rm_au68 G f2 f3 f4 f5 nk_pi1_46 nk_pi2_46) (u12 G) all0 d8_8 rfl rfl rfl lr (by decide) all0 ?_
  rintro _ _ _ _ X6 rfl _ _ _
  refine sk [.int (-1)] rfl ?_
  exact o_iret X6 d8_11 rfl (by decide) (by decide) (fun _ CC => rfl)
theorem rm_au70 (G : GL l Z a0 zc fmt) (F0 : ex1 Z h0 pa1) (F1 : fd0 Z h0 pa1 (.int 0)) (F2 : fd1 Z h0 pa1 (.ref pa2)) (F3 : av1 Z h0 pa2 pk1 3 [.int pi100, .int pi1, .int pi2]) (nk_pi1_46 : ¬ pi1 = (46 : Int32)) (nk_pi1_47 : ¬ pi1 = (47 : Int32)) (nk_pi2_46 : ¬ pi2 = (46 : Int32)) (nk_pi2_47 : ¬ pi2 = (47 : Int32)) (pc_0 : pi100 = (47 : Int32)) : M7 l Z 6 2 6 115 #[.ref pa1] h0 n0 [] [] (Q10 Z  h0) := by
  refine mi B7 ef7 (hEW G) fun s X0 hsf0 n0le => ?_
  have := F0.l
  have := F3.l
  refine oA 1 X0 d7_0 rfl rfl <| oA 2 X0 d7_1 rfl rfl <| ob 4 (v := 47) X0 d7_2 rfl (by decide) <| mV 7 1 X0 F0 (rm_au61 G F0 F1 F2 F3 nk_pi1_47 nk_pi2_47 pc_0) (u13 G) all0 d7_4 rfl rfl rfl lr (by decide) all0 ?_
  rintro _ _ _ _ X1 rfl K1 _ _
  refine sk [i0, .ref pa1] rfl <| oc 8 (v := 1) X1 d7_7 rfl (by decide) <| o_iadd 9 (v := 1) X1 d7_8 rfl (by decide) ?_
  have f2 := F0.keep K1
  have f3 := F1.k0 K1
  have f4 := F2.k0 K1
  have f5 := F3.k0 K1
  refine mV 12 0 X1 f2 (rm_au66 G f2 f3 f4 f5) (u18 G) all0 d7_9 rfl rfl rfl lr (by decide) all0 ?_
  rintro _ _ _ _ X6 ⟨xa1_7, _, _, rfl, q10, q11, q12, _, q14, _, _, _⟩ _ _ _
  refine sk [.ref xa1_7] rfl <| oV 13 (l' := #[rr pa1, rr xa1_7, uu]) X6 d7_12 rfl rfl rfl <| oA 14 X6 d7_13 rfl rfl <| ob 16 (v := 46) X6 d7_14 rfl (by decide) <| mV 19 0 X6 q10 (rm_au69 G q10 q11 q12 q14 nk_pi1_46 nk_pi2_46) (u13 G) all0 d7_16 rfl rfl rfl lr (by decide) all0 ?_
  rintro _ _ _ _ X18 rfl _ _ _
  refine sk [.int (-1)] rfl <| oT 20 (l' := #[rr pa1, rr xa1_7, ii (-1)]) X18 d7_19 rfl rfl <| oI 21 X18 d7_20 rfl rfl <| on 24 X18 d7_21 rfl ((if0 _ _).trans (tlt (by decide)).2.1) <| o_aconstNull 25 X18 d7_24 rfl <| og 35 X18 d7_25 (by decide) ?_
  exact oR X18 d7_35 rfl rfl rfl (by decide) (by decide) (fun _ CC => rfl)
theorem rm_au71 (G : GL l Z a0 zc fmt) (F0 : av1 Z h0 pa1 pk1 2 [.int pi1, .int pi2]) (nk_pi2_46 : ¬ pi2 = (46 : Int32)) (pc_0 : pi1 = (46 : Int32)) : M13 l Z 1 0 0 13 #[.ref pa1, .int 46, .int 1] h0 n0 [] [] (Q3 Z  h0) := by
  refine mi B13 ef10 (hEW G) fun s X0 hsf0 n0le => ?_
  have := F0.l
  refine oI 1 X0 d13_0 rfl rfl <| mS 4 0 X0 (rm_au8 G (by decide) (by decide)) (u9 G) all0 d13_1 rfl rfl rfl lr (by decide) all0 ?_
  rintro _ _ _ _ X1 rfl K1 _ _
  refine sk [.int 1] rfl <| oy 9 X1 d13_4 (by decide) ((if0 _ _).trans (feq (by decide)).2) <| oI 10 X1 d13_9 rfl rfl <| oA 11 X1 d13_10 rfl rfl ?_
  have f2 := F0.k0 K1
  refine oL 12 X1 f2 d13_11 rfl <| oc 13 (v := 1) X1 d13_12 rfl (by decide) <| o_isub 14 (v := 1) X1 d13_13 rfl (by decide) <| mS 17 0 X1 (rm_au9 G (by decide)) (u10 G) all0 d13_14 rfl rfl rfl lr (by decide) all0 ?_
  rintro _ _ _ _ X3 rfl K3 _ _
  refine sk [.int 1] rfl <| oT 18 (l' := #[rr pa1, ii 46, ii 1, ii 1]) X3 d13_17 rfl rfl <| oI 19 X3 d13_18 rfl rfl <| on 22 X3 d13_19 rfl ((if0 _ _).trans (flt (by decide)).1) <| oA 23 X3 d13_22 rfl rfl <| oI 24 X3 d13_23 rfl rfl ?_
  have f4 := f2.k0 K3
  refine oB 25 (v := (.int pi2)) X3 f4 ⟨by decide, by decide⟩ rfl d13_24 rfl <| oI 26 X3 d13_25 rfl rfl <| o_i2b 27 (v := 46) X3 d13_26 rfl (by decide) <| oY 32 X3 d13_27 (by decide) (feq nk_pi2_46).2 <| oJ 35 0 #[rr pa1, ii 46, ii 1, ii 0] X3 d13_32 rfl rfl (by decide) rfl <| og 18 X3 d13_35 (by decide) <| oI 19 X3 d13_18 rfl rfl <| on 22 X3 d13_19 rfl ((if0 _ _).trans (flt (by decide)).1) <| oA 23 X3 d13_22 rfl rfl <| oI 24 X3 d13_23 rfl rfl <| oB 25 (v := (.int pi1)) X3 f4 ⟨by decide, by decide⟩ rfl d13_24 rfl <| oI 26 X3 d13_25 rfl rfl ?_
  refine o_i2b 27 (v := 46) X3 d13_26 rfl (by decide) <| oN 30 X3 d13_27 rfl (teq pc_0).2 <| oI 31 X3 d13_30 rfl rfl ?_
  exact o_iret X3 d13_31 rfl (by decide) (by decide) (fun _ CC => rfl)
theorem rm_au72 (G : GL l Z a0 zc fmt) (F0 : ex1 Z h0 pa1) (F1 : fd0 Z h0 pa1 (.int 0)) (F2 : fd1 Z h0 pa1 (.ref pa2)) (F3 : av1 Z h0 pa2 pk1 2 [.int pi1, .int pi2]) (nk_pi2_46 : ¬ pi2 = (46 : Int32)) (pc_0 : pi1 = (46 : Int32)) : M11 l Z 2 0 0 28 #[.ref pa1, .int 46, .int 1] h0 n0 [] [] (Q3 Z  h0) := by
  refine mi B11 ef9 (hEW G) fun s X0 hsf0 n0le => ?_
  have := F0.l
  have := F3.l
  refine oA 1 X0 d11_0 rfl rfl <| mV 4 0 X0 F0 (rm_au7 G F1 (by decide)) (u8 G) all0 d11_1 rfl rfl rfl lr (by decide) all0 ?_
  rintro _ _ _ _ X1 rfl K1 _ _
  refine sk [.int 1] rfl <| on 7 X1 d11_4 rfl ((if0 _ _).trans (feq (by decide)).1) <| oA 8 X1 d11_7 rfl rfl ?_
  have f2 := F2.k0 K1
  refine oF 11 X1 (w33 G) Via.refl f2 d11_8 rfl ?_
  intro _ X4
  refine oI 12 X4 d11_11 rfl rfl <| oI 13 X4 d11_12 rfl rfl ?_
  have f5 := F3.k0 K1
  refine mS 16 0 X4 (rm_au71 G f5 nk_pi2_46 pc_0) (u11 G) all0 d11_13 rfl rfl rfl lr (by decide) all0 ?_
  rintro _ _ _ _ X6 rfl _ _ _
  refine sk [i0] rfl <| og 28 X6 d11_16 (by decide) ?_
  exact o_iret X6 d11_28 rfl (by decide) (by decide) (fun _ CC => rfl)
theorem rm_au73 (G : GL l Z a0 zc fmt) (F0 : ex1 Z h0 pa1) (F1 : fd0 Z h0 pa1 (.int 0)) (F2 : fd1 Z h0 pa1 (.ref pa2)) (F3 : av1 Z h0 pa2 pk1 2 [.int pi1, .int pi2]) (nk_pi2_46 : ¬ pi2 = (46 : Int32)) (pc_0 : pi1 = (46 : Int32)) : M8 l Z 3 0 0 42 #[.ref pa1, .int 46] h0 n0 [] [] (Q3 Z  h0) := by
  refine mi B8 ef6 (hEW G) fun s X0 hsf0 n0le => ?_
  have := F0.l
  have := F3.l
  refine oA 1 X0 d8_0 rfl rfl <| oI 2 X0 d8_1 rfl rfl <| oA 3 X0 d8_2 rfl rfl <| mV 6 2 X0 F0 (rm_au28 G F0 F1 F2 F3) (u7 G) all0 d8_3 rfl rfl rfl lr (by decide) all0 ?_
  rintro _ _ _ _ X1 rfl K1 _ _
  refine sk [.int 2, .int 46, .ref pa1] rfl <| oc 7 (v := 1) X1 d8_6 rfl (by decide) <| o_isub 8 (v := 1) X1 d8_7 rfl (by decide) ?_
  have f2 := F0.keep K1
  have f3 := F1.k0 K1
  have f4 := F2.k0 K1
  have f5 := F3.k0 K1
  refine mV 11 0 X1 f2 (rm_au72 G f2 f3 f4 f5 nk_pi2_46 pc_0) (u12 G) all0 d8_8 rfl rfl rfl lr (by decide) all0 ?_
  rintro _ _ _ _ X6 rfl _ _ _
  refine sk [i0] rfl ?_
  exact o_iret X6 d8_11 rfl (by decide) (by decide) (fun _ CC => rfl)
theorem rm_au74 (G : GL l Z a0 zc fmt) (F0 : ex1 Z h0 pa1) (F1 : fd0 Z h0 pa1 (.int 0)) (F2 : fd1 Z h0 pa1 (.ref pa2)) (F3 : av1 Z h0 pa2 pk1 3 [.int pi100, .int pi101, .int pi1]) (nk_pi1_46 : ¬ pi1 = (46 : Int32)) (nk_pi1_47 : ¬ pi1 = (47 : Int32)) (pc_0 : ¬ pi101 = (47 : Int32)) (pc_1 : pi100 = (47 : Int32)) (pc_2 : pi101 = (46 : Int32)) : M7 l Z 6 4 11 115 #[.ref pa1] h0 n0 [] [] (Q17 Z pi1 h0) := by
  refine mi B7 ef7 (hEW G) fun s X0 hsf0 n0le => ?_
  have := F0.l
  have := F3.l
  refine oA 1 X0 d7_0 rfl rfl <| oA 2 X0 d7_1 rfl rfl <| ob 4 (v := 47) X0 d7_2 rfl (by decide) <| mV 7 1 X0 F0 (rm_au61 G F0 F1 F2 F3 pc_0 nk_pi1_47 pc_1) (u13 G) all0 d7_4 rfl rfl rfl lr (by decide) all0 ?_
  rintro _ _ _ _ X1 rfl K1 _ _
  refine sk [i0, .ref pa1] rfl <| oc 8 (v := 1) X1 d7_7 rfl (by decide) <| o_iadd 9 (v := 1) X1 d7_8 rfl (by decide) ?_
  have f2 := F0.keep K1
  have f3 := F1.k0 K1
  have f4 := F2.k0 K1
  have f5 := F3.k0 K1
  refine mV 12 0 X1 f2 (rm_au66 G f2 f3 f4 f5) (u18 G) all0 d7_9 rfl rfl rfl lr (by decide) all0 ?_
  rintro _ _ _ _ X6 ⟨xa1_7, _, _, rfl, q10, q11, q12, _, q14, _, _, _⟩ _ _ _
  refine sk [.ref xa1_7] rfl <| oV 13 (l' := #[rr pa1, rr xa1_7, uu]) X6 d7_12 rfl rfl rfl <| oA 14 X6 d7_13 rfl rfl <| ob 16 (v := 46) X6 d7_14 rfl (by decide) <| mV 19 0 X6 q10 (rm_au73 G q10 q11 q12 q14 nk_pi1_46 pc_2) (u13 G) all0 d7_16 rfl rfl rfl lr (by decide) all0 ?_
  rintro _ _ _ _ X18 rfl K18 _ _
  refine sk [i0] rfl <| oT 20 (l' := #[rr pa1, rr xa1_7, ii 0]) X18 d7_19 rfl rfl <| oI 21 X18 d7_20 rfl rfl <| oy 28 X18 d7_21 (by decide) ((if0 _ _).trans (flt (by decide)).2.1) <| oA 29 X18 d7_28 rfl rfl <| oI 30 X18 d7_29 rfl rfl <| oc 31 (v := 1) X18 d7_30 rfl (by decide) <| o_iadd 32 (v := 1) X18 d7_31 rfl (by decide) ?_
  have f19 := q10.keep K18
  have f20 := q11.k0 K18
  have f21 := q12.k0 K18
  have f22 := q14.k0 K18
  refine mV 35 0 X18 f19 (rm_au38 G f19 f20 f21 f22) (u18 G) all0 d7_32 rfl rfl rfl lr (by decide) all0 ?_
  rintro _ _ _ _ X23 ⟨xa1_24, xa2_25, xk1_26, rfl, q27, q28, q29, q30, q31, q32, q33, _⟩ _ _ _
  refine sk [.ref xa1_24] rfl ?_
  exact oR X23 d7_35 rfl rfl rfl (by decide) (by decide) (fun _ CC => ⟨xa1_24, xa2_25, xk1_26, rfl, q27, q28, q29, (CC.safe (own_lt (by omega)) q30), q31, q32, (CC.safe (own_lt (by omega)) q33), by omega⟩)
theorem rm_au75 (G : GL l Z a0 zc fmt) (pc_0 : ¬ pi1 < (0 : Int32)) (pc_1 : pi1 < pi2) (r_fmt : fmt.isRef = true) : M28 l Z 0 0 0 0 #[.int pi1, .int pi2, fmt] h0 n0 [] [] (Q6 Z pi1 h0) := by
  refine mi B28 (ef17 r_fmt) (hEW G) fun s X0 hsf0 n0le => ?_
  refine oI 1 X0 d28_0 rfl rfl <| on 4 X0 d28_1 rfl ((if0 _ _).trans (flt pc_0).1) <| oI 5 X0 d28_4 rfl rfl <| oI 6 X0 d28_5 rfl rfl <| oY 16 X0 d28_6 (by decide) (tlt pc_1).1 <| oI 17 X0 d28_16 rfl rfl ?_
  exact o_iret X0 d28_17 rfl (by decide) (by decide) (fun _ CC => rfl)
theorem rm_au76 (G : GL l Z a0 zc fmt) (pc_0 : ¬ pi1 < (0 : Int32)) (pc_1 : pi1 < pi2) : M27 l Z 1 0 0 14 #[.int pi1, .int pi2] h0 n0 [] [] (Q7 Z  h0) := by
  refine mi B27 ef12 (hEW G) fun s X0 hsf0 n0le => ?_
  refine oI 1 X0 d27_0 rfl rfl <| oI 2 X0 d27_1 rfl rfl <| oG 5 X0 (w88 G) Via.refl ((sg0 G).ext X0.old.2) d27_2 rfl ?_
  intro _ X2
  refine mS 8 0 X2 (rm_au75 G pc_0 pc_1 (hfmt G)) (u26 G) all0 d27_5 rfl rfl rfl lr (by decide) all0 ?_
  rintro _ _ _ _ X3 rfl _ _ _
  refine sk [.int pi1] rfl <| o_pop 9 X3 d27_8 rfl rfl ?_
  exact oz X3 d27_9 rfl (by decide) (by decide) (fun _ CC => rfl)
def Q24 (Z : State) (b1 : Int32) (h0 : Heap) (v : Option Value) (h : Heap) (vm : Vm) : Prop := v = some (.int ((b1 &&& (255 : Int32)).toUInt32.toUInt16.toUInt32.toInt32))
theorem rm_au77 (G : GL l Z a0 zc fmt) (F0 : av1 Z h0 pa1 pk1 1 [.int pi1]) : M26 l Z 2 0 0 27 #[.ref pa1, i0] h0 n0 [] [] (Q24 Z pi1 h0) := by
  refine mi B26 ef6 (hEW G) fun s X0 hsf0 n0le => ?_
  have := F0.l
  refine oI 1 X0 d26_0 rfl rfl <| oA 2 X0 d26_1 rfl rfl <| oL 3 X0 F0 d26_2 rfl <| mS 6 0 X0 (rm_au76 G (by decide) (by decide)) (u27 G) all0 d26_3 rfl rfl rfl lr (by decide) all0 ?_
  rintro _ _ _ _ X1 rfl K1 _ _
  refine sk [] rfl <| oA 7 X1 d26_6 rfl rfl <| oI 8 X1 d26_7 rfl rfl ?_
  have f2 := F0.k0 K1
  refine oB 9 (v := (.int pi1)) X1 f2 ⟨by decide, by decide⟩ rfl d26_8 rfl <| o_sipush 12 (v := 255) X1 d26_9 rfl (by decide) <| o_iand 13 (v := (pi1 &&& (255 : Int32))) X1 d26_12 rfl rfl <| o_i2c 14 (v := ((pi1 &&& (255 : Int32)).toUInt32.toUInt16.toUInt32.toInt32)) X1 d26_13 rfl rfl ?_
  exact o_nret (y := ((pi1 &&& (255 : Int32)).toUInt32.toUInt16.toUInt32.toInt32)) (t := .char) X1 d26_14 rfl (own_nc2 rfl) (by simp) (by decide) (by decide) (fun _ CC => rfl)
theorem rm_au78 (G : GL l Z a0 zc fmt) (F0 : ex1 Z h0 pa1) (F1 : fd0 Z h0 pa1 (.int 0)) (F2 : fd1 Z h0 pa1 (.ref pa2)) (F3 : av1 Z h0 pa2 pk1 1 [.int pi1]) : M25 l Z 3 0 0 40 #[.ref pa1, i0] h0 n0 [] [] (Q24 Z pi1 h0) := by
  refine mi B25 ef6 (hEW G) fun s X0 hsf0 n0le => ?_
  have := F0.l
  have := F3.l
  refine oA 1 X0 d25_0 rfl rfl <| mV 4 0 X0 F0 (rm_au7 G F1 (by decide)) (u8 G) all0 d25_1 rfl rfl rfl lr (by decide) all0 ?_
  rintro _ _ _ _ X1 rfl K1 _ _
  refine sk [.int 1] rfl <| on 7 X1 d25_4 rfl ((if0 _ _).trans (feq (by decide)).1) <| oA 8 X1 d25_7 rfl rfl ?_
  have f2 := F2.k0 K1
  refine oF 11 X1 (w33 G) Via.refl f2 d25_8 rfl ?_
  intro _ X4
  refine oI 12 X4 d25_11 rfl rfl ?_
  have f5 := F3.k0 K1
  refine mS 15 0 X4 (rm_au77 G f5) (u28 G) all0 d25_12 rfl rfl rfl lr (by decide) all0 ?_
  rintro _ _ _ _ X6 rfl _ _ _
  refine sk [.int ((pi1 &&& (255 : Int32)).toUInt32.toUInt16.toUInt32.toInt32)] rfl ?_
  exact o_nret (y := ((pi1 &&& (255 : Int32)).toUInt32.toUInt16.toUInt32.toInt32)) (t := .char) X6 d25_15 rfl (own_nc2 rfl) (by simp) (by decide) (by decide) (fun _ CC => rfl)
theorem rm_au79 (G : GL l Z a0 zc fmt) (F0 : av1 Z h0 pa1 pk1 2 [.int pi1, .int pi2]) (pc_0 : pi2 = (46 : Int32)) : M13 l Z 1 0 0 13 #[.ref pa1, .int 46, .int 1] h0 n0 [] [] (Q5 Z  h0) := by
  refine mi B13 ef10 (hEW G) fun s X0 hsf0 n0le => ?_
  have := F0.l
  refine oI 1 X0 d13_0 rfl rfl <| mS 4 0 X0 (rm_au8 G (by decide) (by decide)) (u9 G) all0 d13_1 rfl rfl rfl lr (by decide) all0 ?_
  rintro _ _ _ _ X1 rfl K1 _ _
  refine sk [.int 1] rfl <| oy 9 X1 d13_4 (by decide) ((if0 _ _).trans (feq (by decide)).2) <| oI 10 X1 d13_9 rfl rfl <| oA 11 X1 d13_10 rfl rfl ?_
  have f2 := F0.k0 K1
  refine oL 12 X1 f2 d13_11 rfl <| oc 13 (v := 1) X1 d13_12 rfl (by decide) <| o_isub 14 (v := 1) X1 d13_13 rfl (by decide) <| mS 17 0 X1 (rm_au9 G (by decide)) (u10 G) all0 d13_14 rfl rfl rfl lr (by decide) all0 ?_
  rintro _ _ _ _ X3 rfl K3 _ _
  refine sk [.int 1] rfl <| oT 18 (l' := #[rr pa1, ii 46, ii 1, ii 1]) X3 d13_17 rfl rfl <| oI 19 X3 d13_18 rfl rfl <| on 22 X3 d13_19 rfl ((if0 _ _).trans (flt (by decide)).1) <| oA 23 X3 d13_22 rfl rfl <| oI 24 X3 d13_23 rfl rfl ?_
  have f4 := f2.k0 K3
  refine oB 25 (v := (.int pi2)) X3 f4 ⟨by decide, by decide⟩ rfl d13_24 rfl <| oI 26 X3 d13_25 rfl rfl <| o_i2b 27 (v := 46) X3 d13_26 rfl (by decide) <| oN 30 X3 d13_27 rfl (teq pc_0).2 <| oI 31 X3 d13_30 rfl rfl ?_
  exact o_iret X3 d13_31 rfl (by decide) (by decide) (fun _ CC => rfl)
theorem rm_au80 (G : GL l Z a0 zc fmt) (F0 : ex1 Z h0 pa1) (F1 : fd0 Z h0 pa1 (.int 0)) (F2 : fd1 Z h0 pa1 (.ref pa2)) (F3 : av1 Z h0 pa2 pk1 2 [.int pi1, .int pi2]) (pc_0 : pi2 = (46 : Int32)) : M11 l Z 2 0 0 28 #[.ref pa1, .int 46, .int 1] h0 n0 [] [] (Q5 Z  h0) := by
  refine mi B11 ef9 (hEW G) fun s X0 hsf0 n0le => ?_
  have := F0.l
  have := F3.l
  refine oA 1 X0 d11_0 rfl rfl <| mV 4 0 X0 F0 (rm_au7 G F1 (by decide)) (u8 G) all0 d11_1 rfl rfl rfl lr (by decide) all0 ?_
  rintro _ _ _ _ X1 rfl K1 _ _
  refine sk [.int 1] rfl <| on 7 X1 d11_4 rfl ((if0 _ _).trans (feq (by decide)).1) <| oA 8 X1 d11_7 rfl rfl ?_
  have f2 := F2.k0 K1
  refine oF 11 X1 (w33 G) Via.refl f2 d11_8 rfl ?_
  intro _ X4
  refine oI 12 X4 d11_11 rfl rfl <| oI 13 X4 d11_12 rfl rfl ?_
  have f5 := F3.k0 K1
  refine mS 16 0 X4 (rm_au79 G f5 pc_0) (u11 G) all0 d11_13 rfl rfl rfl lr (by decide) all0 ?_
  rintro _ _ _ _ X6 rfl _ _ _
  refine sk [.int 1] rfl <| og 28 X6 d11_16 (by decide) ?_
  exact o_iret X6 d11_28 rfl (by decide) (by decide) (fun _ CC => rfl)
theorem rm_au81 (G : GL l Z a0 zc fmt) (F0 : ex1 Z h0 pa1) (F1 : fd0 Z h0 pa1 (.int 0)) (F2 : fd1 Z h0 pa1 (.ref pa2)) (F3 : av1 Z h0 pa2 pk1 2 [.int pi1, .int pi2]) (pc_0 : pi2 = (46 : Int32)) : M8 l Z 3 0 0 42 #[.ref pa1, .int 46] h0 n0 [] [] (Q5 Z  h0) := by
  refine mi B8 ef6 (hEW G) fun s X0 hsf0 n0le => ?_
  have := F0.l
  have := F3.l
  refine oA 1 X0 d8_0 rfl rfl <| oI 2 X0 d8_1 rfl rfl <| oA 3 X0 d8_2 rfl rfl <| mV 6 2 X0 F0 (rm_au28 G F0 F1 F2 F3) (u7 G) all0 d8_3 rfl rfl rfl lr (by decide) all0 ?_
  rintro _ _ _ _ X1 rfl K1 _ _
  refine sk [.int 2, .int 46, .ref pa1] rfl <| oc 7 (v := 1) X1 d8_6 rfl (by decide) <| o_isub 8 (v := 1) X1 d8_7 rfl (by decide) ?_
  have f2 := F0.keep K1
  have f3 := F1.k0 K1
  have f4 := F2.k0 K1
  have f5 := F3.k0 K1
  refine mV 11 0 X1 f2 (rm_au80 G f2 f3 f4 f5 pc_0) (u12 G) all0 d8_8 rfl rfl rfl lr (by decide) all0 ?_
  rintro _ _ _ _ X6 rfl _ _ _
  refine sk [.int 1] rfl ?_
  exact o_iret X6 d8_11 rfl (by decide) (by decide) (fun _ CC => rfl)
theorem rm_au82 (G : GL l Z a0 zc fmt) (F0 : ex1 Z h0 pa1) (F1 : fd0 Z h0 pa1 (.int 0)) (F2 : fd1 Z h0 pa1 (.ref pa2)) (F3 : av1 Z h0 pa2 pk1 3 [.int pi100, .int pi1, .int pi101]) (nk_pi1_47 : ¬ pi1 = (47 : Int32)) (pc_0 : ¬ pi101 = (47 : Int32)) (pc_1 : pi100 = (47 : Int32)) (pc_2 : pi101 = (46 : Int32)) : M7 l Z 6 4 10 115 #[.ref pa1] h0 n0 [] [] (Q8 Z  h0) := by
  refine mi B7 ef7 (hEW G) fun s X0 hsf0 n0le => ?_
  have := F0.l
  have := F3.l
  refine oA 1 X0 d7_0 rfl rfl <| oA 2 X0 d7_1 rfl rfl <| ob 4 (v := 47) X0 d7_2 rfl (by decide) <| mV 7 1 X0 F0 (rm_au61 G F0 F1 F2 F3 nk_pi1_47 pc_0 pc_1) (u13 G) all0 d7_4 rfl rfl rfl lr (by decide) all0 ?_
  rintro _ _ _ _ X1 rfl K1 _ _
  refine sk [i0, .ref pa1] rfl <| oc 8 (v := 1) X1 d7_7 rfl (by decide) <| o_iadd 9 (v := 1) X1 d7_8 rfl (by decide) ?_
  have f2 := F0.keep K1
  have f3 := F1.k0 K1
  have f4 := F2.k0 K1
  have f5 := F3.k0 K1
  refine mV 12 0 X1 f2 (rm_au66 G f2 f3 f4 f5) (u18 G) all0 d7_9 rfl rfl rfl lr (by decide) all0 ?_
  rintro _ _ _ _ X6 ⟨xa1_7, _, _, rfl, q10, q11, q12, _, q14, q15, _, _⟩ _ _ _
  refine sk [.ref xa1_7] rfl <| oV 13 (l' := #[rr pa1, rr xa1_7, uu]) X6 d7_12 rfl rfl rfl <| oA 14 X6 d7_13 rfl rfl <| ob 16 (v := 46) X6 d7_14 rfl (by decide) <| mV 19 0 X6 q10 (rm_au81 G q10 q11 q12 q14 pc_2) (u13 G) all0 d7_16 rfl rfl rfl lr (by decide) all0 ?_
  rintro _ _ _ _ X18 rfl K18 _ _
  refine sk [.int 1] rfl <| oT 20 (l' := #[rr pa1, rr xa1_7, ii 1]) X18 d7_19 rfl rfl <| oI 21 X18 d7_20 rfl rfl <| oy 28 X18 d7_21 (by decide) ((if0 _ _).trans (flt (by decide)).2.1) <| oA 29 X18 d7_28 rfl rfl <| oI 30 X18 d7_29 rfl rfl <| oc 31 (v := 1) X18 d7_30 rfl (by decide) <| o_iadd 32 (v := 2) X18 d7_31 rfl (by decide) ?_
  have f19 := q10.keep K18
  have f20 := q11.k0 K18
  have f21 := q12.k0 K18
  have f22 := q14.k0 K18
  have f23 := q15.keep K18
  refine mV 35 0 X18 f19 (rm_au51 G f19 f20 f21 f22 f23) (u18 G) all0 d7_32 rfl rfl rfl lr (by decide) all0 ?_
  rintro _ _ _ _ X24 ⟨xa1_25, xa2_26, xk1_27, rfl, q28, q29, q30, q31, _⟩ _ _ _
  refine sk [.ref xa1_25] rfl ?_
  exact oR X24 d7_35 rfl rfl rfl (by decide) (by decide) (fun _ CC => ⟨xa1_25, xa2_26, xk1_27, rfl, q28, q29, q30, q31, by omega⟩)
theorem rm_au83 (G : GL l Z a0 zc fmt) (F0 : av1 Z h0 pa1 pk1 3 [.int pi1, .int pi2, .int pi3]) (nk_pi3_47 : ¬ pi3 = (47 : Int32)) (pc_0 : pi2 = (47 : Int32)) : M13 l Z 1 0 0 13 #[.ref pa1, .int 47, .int 2] h0 n0 [] [] (Q5 Z  h0) := by
  refine mi B13 ef10 (hEW G) fun s X0 hsf0 n0le => ?_
  have := F0.l
  refine oI 1 X0 d13_0 rfl rfl <| mS 4 0 X0 (rm_au8 G (by decide) (by decide)) (u9 G) all0 d13_1 rfl rfl rfl lr (by decide) all0 ?_
  rintro _ _ _ _ X1 rfl K1 _ _
  refine sk [.int 1] rfl <| oy 9 X1 d13_4 (by decide) ((if0 _ _).trans (feq (by decide)).2) <| oI 10 X1 d13_9 rfl rfl <| oA 11 X1 d13_10 rfl rfl ?_
  have f2 := F0.k0 K1
  refine oL 12 X1 f2 d13_11 rfl <| oc 13 (v := 1) X1 d13_12 rfl (by decide) <| o_isub 14 (v := 2) X1 d13_13 rfl (by decide) <| mS 17 0 X1 (rm_au9 G (by decide)) (u10 G) all0 d13_14 rfl rfl rfl lr (by decide) all0 ?_
  rintro _ _ _ _ X3 rfl K3 _ _
  refine sk [.int 2] rfl <| oT 18 (l' := #[rr pa1, ii 47, ii 2, ii 2]) X3 d13_17 rfl rfl <| oI 19 X3 d13_18 rfl rfl <| on 22 X3 d13_19 rfl ((if0 _ _).trans (flt (by decide)).1) <| oA 23 X3 d13_22 rfl rfl <| oI 24 X3 d13_23 rfl rfl ?_
  have f4 := f2.k0 K3
  refine oB 25 (v := (.int pi3)) X3 f4 ⟨by decide, by decide⟩ rfl d13_24 rfl <| oI 26 X3 d13_25 rfl rfl <| o_i2b 27 (v := 47) X3 d13_26 rfl (by decide) <| oY 32 X3 d13_27 (by decide) (feq nk_pi3_47).2 <| oJ 35 1 #[rr pa1, ii 47, ii 2, ii 1] X3 d13_32 rfl rfl (by decide) rfl <| og 18 X3 d13_35 (by decide) <| oI 19 X3 d13_18 rfl rfl <| on 22 X3 d13_19 rfl ((if0 _ _).trans (flt (by decide)).1) <| oA 23 X3 d13_22 rfl rfl <| oI 24 X3 d13_23 rfl rfl <| oB 25 (v := (.int pi2)) X3 f4 ⟨by decide, by decide⟩ rfl d13_24 rfl <| oI 26 X3 d13_25 rfl rfl ?_
  refine o_i2b 27 (v := 47) X3 d13_26 rfl (by decide) <| oN 30 X3 d13_27 rfl (teq pc_0).2 <| oI 31 X3 d13_30 rfl rfl ?_
  exact o_iret X3 d13_31 rfl (by decide) (by decide) (fun _ CC => rfl)
theorem rm_au84 (G : GL l Z a0 zc fmt) (F0 : ex1 Z h0 pa1) (F1 : fd0 Z h0 pa1 (.int 0)) (F2 : fd1 Z h0 pa1 (.ref pa2)) (F3 : av1 Z h0 pa2 pk1 3 [.int pi1, .int pi2, .int pi3]) (nk_pi3_47 : ¬ pi3 = (47 : Int32)) (pc_0 : pi2 = (47 : Int32)) : M11 l Z 2 0 0 28 #[.ref pa1, .int 47, .int 2] h0 n0 [] [] (Q5 Z  h0) := by
  refine mi B11 ef9 (hEW G) fun s X0 hsf0 n0le => ?_
  have := F0.l
  have := F3.l
  refine oA 1 X0 d11_0 rfl rfl <| mV 4 0 X0 F0 (rm_au7 G F1 (by decide)) (u8 G) all0 d11_1 rfl rfl rfl lr (by decide) all0 ?_
  rintro _ _ _ _ X1 rfl K1 _ _
  refine sk [.int 1] rfl <| on 7 X1 d11_4 rfl ((if0 _ _).trans (feq (by decide)).1) <| oA 8 X1 d11_7 rfl rfl ?_
  have f2 := F2.k0 K1
  refine oF 11 X1 (w33 G) Via.refl f2 d11_8 rfl ?_
  intro _ X4
  refine oI 12 X4 d11_11 rfl rfl <| oI 13 X4 d11_12 rfl rfl ?_
  have f5 := F3.k0 K1
  refine mS 16 0 X4 (rm_au83 G f5 nk_pi3_47 pc_0) (u11 G) all0 d11_13 rfl rfl rfl lr (by decide) all0 ?_
  rintro _ _ _ _ X6 rfl _ _ _
  refine sk [.int 1] rfl <| og 28 X6 d11_16 (by decide) ?_
  exact o_iret X6 d11_28 rfl (by decide) (by decide) (fun _ CC => rfl)
theorem rm_au85 (G : GL l Z a0 zc fmt) (F0 : ex1 Z h0 pa1) (F1 : fd0 Z h0 pa1 (.int 0)) (F2 : fd1 Z h0 pa1 (.ref pa2)) (F3 : av1 Z h0 pa2 pk1 3 [.int pi1, .int pi2, .int pi3]) (nk_pi3_47 : ¬ pi3 = (47 : Int32)) (pc_0 : pi2 = (47 : Int32)) : M8 l Z 3 0 0 42 #[.ref pa1, .int 47] h0 n0 [] [] (Q5 Z  h0) := by
  refine mi B8 ef6 (hEW G) fun s X0 hsf0 n0le => ?_
  have := F0.l
  have := F3.l
  refine oA 1 X0 d8_0 rfl rfl <| oI 2 X0 d8_1 rfl rfl <| oA 3 X0 d8_2 rfl rfl <| mV 6 2 X0 F0 (rm_au58 G F0 F1 F2 F3) (u7 G) all0 d8_3 rfl rfl rfl lr (by decide) all0 ?_
  rintro _ _ _ _ X1 rfl K1 _ _
  refine sk [.int 3, .int 47, .ref pa1] rfl <| oc 7 (v := 1) X1 d8_6 rfl (by decide) <| o_isub 8 (v := 2) X1 d8_7 rfl (by decide) ?_
  have f2 := F0.keep K1
  have f3 := F1.k0 K1
  have f4 := F2.k0 K1
  have f5 := F3.k0 K1
  refine mV 11 0 X1 f2 (rm_au84 G f2 f3 f4 f5 nk_pi3_47 pc_0) (u12 G) all0 d8_8 rfl rfl rfl lr (by decide) all0 ?_
  rintro _ _ _ _ X6 rfl _ _ _
  refine sk [.int 1] rfl ?_
  exact o_iret X6 d8_11 rfl (by decide) (by decide) (fun _ CC => rfl)
theorem rm_au86 (G : GL l Z a0 zc fmt) (F0 : av1 Z h0 pa1 pk1 3 [.int pi1, .int pi2, .int pi3]) : M22 l Z 1 1 1 40 #[.ref pa1, .int 2, .int 3] h0 n0 [] [] (Q15 Z pi3 h0) := by
  refine mi B22 ef13 (hEW G) fun s X0 hsf0 n0le => ?_
  have := F0.l
  refine oI 1 X0 d22_0 rfl rfl <| oI 2 X0 d22_1 rfl rfl <| mS 5 0 X0 (rm_au32 G (by decide)) (u20 G) all0 d22_2 rfl rfl rfl lr (by decide) all0 ?_
  rintro _ _ _ _ X1 rfl K1 _ _
  refine sk [] rfl <| oI 6 X1 d22_5 rfl rfl <| oI 7 X1 d22_6 rfl rfl <| o_isub 8 (v := 1) X1 d22_7 rfl (by decide) <| oT 9 (l' := #[rr pa1, ii 2, ii 3, ii 1, uu]) X1 d22_8 rfl rfl <| oI 10 X1 d22_9 rfl rfl <| nP (aty := .byte) 12 1 X1 (w24 G) d22_10 rfl (by decide) had_byte ?_
  intro _ h2 b2 k2 X2 _ _ E2 V2 A2 _ S2
  have V3 : av1 Z h2 b2 k2 1 [i0] := V2.pad (pad_rep [] (.int (0 : Int32)) 1)
  refine oU 14 (l' := #[rr pa1, ii 2, ii 3, ii 1, rr b2]) X2 d22_12 rfl rfl rfl <| oA 15 X2 d22_14 rfl rfl <| oI 16 X2 d22_15 rfl rfl <| oa 18 X2 d22_16 rfl rfl <| oc 19 (v := 0) X2 d22_18 rfl (by decide) <| oA 20 X2 d22_19 rfl rfl ?_
  have f4 := (F0.k0 K1).ext E2
  refine oL 21 X2 f4 d22_20 rfl <| oI 22 X2 d22_21 rfl rfl <| o_isub 23 (v := 1) X2 d22_22 rfl (by decide) <| oI 24 X2 d22_23 rfl rfl <| mS 27 4 X2 (rm_au9 G (by decide)) (u21 G) all0 d22_24 rfl rfl rfl lr (by decide) all0 ?_
  rintro _ _ _ _ X5 rfl K5 _ C5
  refine sk [.int 1, i0, .ref b2, .int 2, .ref pa1] rfl ?_
  have f6 := f4.k0 K5
  have f7 := V3.k0 K5
  have f8 := C5.safe (own_lt (by omega)) S2
  refine o_cp 30 (us := [.int pi3]) (vr := [.int pi3]) (W := 0) X5 (w111 G) (w114 G) (w112 G) (w113 G) f6 f7 (Or.inl ⟨rfl, rfl⟩) (by decide) (by decide) (by decide) (by decide) (by decide) rfl (Nat.le_of_ble_eq_true rfl) rfl d22_27 rfl rfl (by decide) (Nat.le_of_eq rfl) (by decide) (by omega) (Or.inr (by omega)) f8 ?_
  intro _ _ X9 K9 C9 V9
  have := K9.1
  refine oa 32 X9 d22_30 rfl rfl ?_
  have f10 := (A2.keep K5).keep K9
  have f11 := C9.safe (own_lt (by omega)) f8
  exact oR X9 d22_32 rfl rfl rfl (by decide) (by decide) (fun _ CC => ⟨b2, k2, rfl, V9, f10, (CC.safe (own_lt (by omega)) f11), by omega⟩)
theorem rm_au87 (G : GL l Z a0 zc fmt) (F0 : av1 Z h0 pa1 pk1 3 [.int pi1, .int pi2, .int pi3]) : M21 l Z 2 1 1 56 #[.ref pa1, .int 2, .int 3] h0 n0 [] [] (Q15 Z pi3 h0) := by
  refine mi B21 ef9 (hEW G) fun s X0 hsf0 n0le => ?_
  have := F0.l
  refine oI 1 X0 d21_0 rfl rfl <| oy 10 X0 d21_1 (by decide) ((if0 _ _).trans (feq (by decide)).2) <| oA 11 X0 d21_10 rfl rfl <| oI 12 X0 d21_11 rfl rfl <| oI 13 X0 d21_12 rfl rfl <| mS 16 0 X0 (rm_au86 G F0) (u22 G) all0 d21_13 rfl rfl rfl lr (by decide) all0 ?_
  rintro _ _ _ _ X1 ⟨xa1_2, xk1_3, rfl, q4, q5, q6, _⟩ _ _ _
  refine sk [.ref xa1_2] rfl ?_
  exact oR X1 d21_16 rfl rfl rfl (by decide) (by decide) (fun _ CC => ⟨xa1_2, xk1_3, rfl, q4, q5, (CC.safe (own_lt (by omega)) q6), by omega⟩)
theorem rm_au88 (G : GL l Z a0 zc fmt) (F0 : av1 Z h0 pa1 pk1 3 [.int pi1, .int pi2, .int pi3]) : M20 l Z 3 2 5 72 #[.ref pa1, .int 2, .int 1] h0 n0 [] [] (Q17 Z pi3 h0) := by
  refine mi B20 ef9 (hEW G) fun s X0 hsf0 n0le => ?_
  have l1 := F0.l
  refine oI 1 X0 d20_0 rfl rfl <| oy 7 X0 d20_1 (by decide) ((if0 _ _).trans (feq (by decide)).2) <| o_new 10 X0 (w99 G) (w7 G) (w8 G) d20_7 rfl (by decide) (by decide) ?_
  intro _ h1 b1 X1 _ l1 E1 A1 D1 _ _ S1
  have f2 : fd0 Z h1 b1 (.int 0) := D1 (Or.inr (w32 G)) fd_0
  have f3 : fd1 Z h1 b1 .null := D1 (Or.inr (w34 G)) fd_1
  refine oD 11 X1 d20_10 rfl rfl <| oA 12 X1 d20_11 rfl rfl <| oI 13 X1 d20_12 rfl rfl <| oI 14 X1 d20_13 rfl rfl <| oI 15 X1 d20_14 rfl rfl <| o_iadd 16 (v := 3) X1 d20_15 rfl (by decide) ?_
  have f4 := F0.ext E1
  refine mS 19 2 X1 (rm_au87 G f4) (u23 G) all0 d20_16 rfl rfl rfl lr (by decide) all0 ?_
  rintro _ _ _ _ X5 ⟨xa1_6, xk1_7, rfl, q8, q9, q10, _⟩ K5 _ C5
  refine sk [.ref xa1_6, .ref b1, .ref b1] rfl <| oc 20 (v := 0) X5 d20_19 rfl (by decide) ?_
  have f12 := A1.keep K5
  have f13 := f2.k0 K5
  have f14 := f3.k0 K5
  have f15 := C5.safe (own_lt (by omega)) S1
  refine mP 23 1 X5 (rm_au35 G f12 f13 f14 (by omega)) (u24 G) (sS (by omega) f15 all0) d20_20 rfl rfl rfl lr (by decide) (aR (by omega) all0) ?_
  rintro _ _ _ _ X16 ⟨rfl, q17, q18, q19⟩ K16 _ C16
  refine sk [.ref b1] rfl ?_
  have f20 := C16.safe (own_lt (by omega)) f15
  have f21 := q8.k1 K16 (by omega)
  have f22 := q9.keep K16
  have f23 := C16.safe (own_lt (by omega)) q10
  exact oR X16 d20_23 rfl rfl rfl (by decide) (by decide) (fun _ CC => ⟨b1, xa1_6, xk1_7, rfl, q17, q18, q19, (CC.safe (own_lt (by omega)) f20), f21, f22, (CC.safe (own_lt (by omega)) f23), by omega⟩)
theorem rm_au89 (G : GL l Z a0 zc fmt) (F0 : ex1 Z h0 pa1) (F1 : fd0 Z h0 pa1 (.int 0)) (F2 : fd1 Z h0 pa1 (.ref pa2)) (F3 : av1 Z h0 pa2 pk1 3 [.int pi1, .int pi2, .int pi3]) : M17 l Z 4 2 5 86 #[.ref pa1, .int 2, .int 3] h0 n0 [] [] (Q17 Z pi3 h0) := by
  refine mi B17 ef13 (hEW G) fun s X0 hsf0 n0le => ?_
  have := F0.l
  have := F3.l
  refine oA 1 X0 d17_0 rfl rfl <| mV 4 0 X0 F0 (rm_au58 G F0 F1 F2 F3) (u7 G) all0 d17_1 rfl rfl rfl lr (by decide) all0 ?_
  rintro _ _ _ _ X1 rfl K1 _ _
  refine sk [.int 3] rfl <| oT 5 (l' := #[rr pa1, ii 2, ii 3, ii 3, uu]) X1 d17_4 rfl rfl <| oI 6 X1 d17_5 rfl rfl <| oI 7 X1 d17_6 rfl rfl <| oI 8 X1 d17_7 rfl rfl <| mS 11 0 X1 (rm_au14 G (by decide) (by decide) (by decide)) (u15 G) all0 d17_8 rfl rfl rfl lr (by decide) all0 ?_
  rintro _ _ _ _ X2 rfl K2 _ _
  refine sk [] rfl <| oI 12 X2 d17_11 rfl rfl <| oy 22 X2 d17_12 (by decide) ((if0 _ _).trans (feq (by decide)).2) <| oI 23 X2 d17_22 rfl rfl <| oI 24 X2 d17_23 rfl rfl <| o_isub 25 (v := 1) X2 d17_24 rfl (by decide) <| oS 27 (l' := #[rr pa1, ii 2, ii 3, ii 3, ii 1]) X2 d17_25 rfl rfl <| oA 28 X2 d17_27 rfl rfl ?_
  have f3 := (F1.k0 K1).k0 K2
  have f4 := (F0.keep K1).keep K2
  refine mV 31 0 X2 f4 (rm_au7 G f3 (by decide)) (u8 G) all0 d17_28 rfl rfl rfl lr (by decide) all0 ?_
  rintro _ _ _ _ X5 rfl K5 _ _
  refine sk [.int 1] rfl <| on 34 X5 d17_31 rfl ((if0 _ _).trans (feq (by decide)).1) <| oA 35 X5 d17_34 rfl rfl ?_
  have f6 := ((F2.k0 K1).k0 K2).k0 K5
  refine oF 38 X5 (w33 G) Via.refl f6 d17_35 rfl ?_
  intro _ X8
  refine oI 39 X8 d17_38 rfl rfl <| oi 41 X8 d17_39 rfl rfl ?_
  have f9 := ((F3.k0 K1).k0 K2).k0 K5
  refine mS 44 0 X8 (rm_au88 G f9) (u16 G) all0 d17_41 rfl rfl rfl lr (by decide) all0 ?_
  rintro _ _ _ _ X10 ⟨xa1_11, xa2_12, xk1_13, rfl, q14, q15, q16, q17, q18, q19, q20, _⟩ _ _ _
  refine sk [.ref xa1_11] rfl <| og 57 X10 d17_44 (by decide) ?_
  exact oR X10 d17_57 rfl rfl rfl (by decide) (by decide) (fun _ CC => ⟨xa1_11, xa2_12, xk1_13, rfl, q14, q15, q16, (CC.safe (own_lt (by omega)) q17), q18, q19, (CC.safe (own_lt (by omega)) q20), by omega⟩)
theorem rm_au90 (G : GL l Z a0 zc fmt) (F0 : ex1 Z h0 pa1) (F1 : fd0 Z h0 pa1 (.int 0)) (F2 : fd1 Z h0 pa1 (.ref pa2)) (F3 : av1 Z h0 pa2 pk1 3 [.int pi1, .int pi2, .int pi3]) : M16 l Z 5 2 5 102 #[.ref pa1, .int 2] h0 n0 [] [] (Q17 Z pi3 h0) := by
  refine mi B16 ef6 (hEW G) fun s X0 hsf0 n0le => ?_
  have := F0.l
  have := F3.l
  refine oA 1 X0 d16_0 rfl rfl <| oI 2 X0 d16_1 rfl rfl <| oA 3 X0 d16_2 rfl rfl <| mV 6 2 X0 F0 (rm_au58 G F0 F1 F2 F3) (u7 G) all0 d16_3 rfl rfl rfl lr (by decide) all0 ?_
  rintro _ _ _ _ X1 rfl K1 _ _
  refine sk [.int 3, .int 2, .ref pa1] rfl ?_
  have f2 := F0.keep K1
  have f3 := F1.k0 K1
  have f4 := F2.k0 K1
  have f5 := F3.k0 K1
  refine mV 9 0 X1 f2 (rm_au89 G f2 f3 f4 f5) (u17 G) all0 d16_6 rfl rfl rfl lr (by decide) all0 ?_
  rintro _ _ _ _ X6 ⟨xa1_7, xa2_8, xk1_9, rfl, q10, q11, q12, q13, q14, q15, q16, _⟩ _ _ _
  refine sk [.ref xa1_7] rfl ?_
  exact oR X6 d16_9 rfl rfl rfl (by decide) (by decide) (fun _ CC => ⟨xa1_7, xa2_8, xk1_9, rfl, q10, q11, q12, (CC.safe (own_lt (by omega)) q13), q14, q15, (CC.safe (own_lt (by omega)) q16), by omega⟩)
theorem rm_au91 (G : GL l Z a0 zc fmt) (F0 : ex1 Z h0 pa1) (F1 : fd0 Z h0 pa1 (.int 0)) (F2 : fd1 Z h0 pa1 (.ref pa2)) (F3 : av1 Z h0 pa2 pk1 3 [.int pi100, .int pi101, .int pi1]) (nk_pi1_46 : ¬ pi1 = (46 : Int32)) (nk_pi1_47 : ¬ pi1 = (47 : Int32)) (pc_0 : pi101 = (47 : Int32)) : M7 l Z 6 2 5 115 #[.ref pa1] h0 n0 [] [] (Q10 Z  h0) := by
  refine mi B7 ef7 (hEW G) fun s X0 hsf0 n0le => ?_
  have := F0.l
  have := F3.l
  refine oA 1 X0 d7_0 rfl rfl <| oA 2 X0 d7_1 rfl rfl <| ob 4 (v := 47) X0 d7_2 rfl (by decide) <| mV 7 1 X0 F0 (rm_au85 G F0 F1 F2 F3 nk_pi1_47 pc_0) (u13 G) all0 d7_4 rfl rfl rfl lr (by decide) all0 ?_
  rintro _ _ _ _ X1 rfl K1 _ _
  refine sk [.int 1, .ref pa1] rfl <| oc 8 (v := 1) X1 d7_7 rfl (by decide) <| o_iadd 9 (v := 2) X1 d7_8 rfl (by decide) ?_
  have f2 := F0.keep K1
  have f3 := F1.k0 K1
  have f4 := F2.k0 K1
  have f5 := F3.k0 K1
  refine mV 12 0 X1 f2 (rm_au90 G f2 f3 f4 f5) (u18 G) all0 d7_9 rfl rfl rfl lr (by decide) all0 ?_
  rintro _ _ _ _ X6 ⟨xa1_7, _, _, rfl, q10, q11, q12, _, q14, _, _, _⟩ _ _ _
  refine sk [.ref xa1_7] rfl <| oV 13 (l' := #[rr pa1, rr xa1_7, uu]) X6 d7_12 rfl rfl rfl <| oA 14 X6 d7_13 rfl rfl <| ob 16 (v := 46) X6 d7_14 rfl (by decide) <| mV 19 0 X6 q10 (rm_au41 G q10 q11 q12 q14 nk_pi1_46) (u13 G) all0 d7_16 rfl rfl rfl lr (by decide) all0 ?_
  rintro _ _ _ _ X18 rfl _ _ _
  refine sk [.int (-1)] rfl <| oT 20 (l' := #[rr pa1, rr xa1_7, ii (-1)]) X18 d7_19 rfl rfl <| oI 21 X18 d7_20 rfl rfl <| on 24 X18 d7_21 rfl ((if0 _ _).trans (tlt (by decide)).2.1) <| o_aconstNull 25 X18 d7_24 rfl <| og 35 X18 d7_25 (by decide) ?_
  exact oR X18 d7_35 rfl rfl rfl (by decide) (by decide) (fun _ CC => rfl)
theorem rm_au92 (G : GL l Z a0 zc fmt) (F0 : ex1 Z h0 pa1) (F1 : fd0 Z h0 pa1 (.int 0)) (F2 : fd1 Z h0 pa1 (.ref pa2)) (F3 : av1 Z h0 pa2 pk1 3 [.int pi100, .int pi101, .int pi102]) (pc_0 : ¬ pi102 = (47 : Int32)) (pc_1 : pi101 = (47 : Int32)) (pc_2 : pi102 = (46 : Int32)) : M7 l Z 6 4 9 115 #[.ref pa1] h0 n0 [] [] (Q8 Z  h0) := by
  refine mi B7 ef7 (hEW G) fun s X0 hsf0 n0le => ?_
  have := F0.l
  have := F3.l
  refine oA 1 X0 d7_0 rfl rfl <| oA 2 X0 d7_1 rfl rfl <| ob 4 (v := 47) X0 d7_2 rfl (by decide) <| mV 7 1 X0 F0 (rm_au85 G F0 F1 F2 F3 pc_0 pc_1) (u13 G) all0 d7_4 rfl rfl rfl lr (by decide) all0 ?_
  rintro _ _ _ _ X1 rfl K1 _ _
  refine sk [.int 1, .ref pa1] rfl <| oc 8 (v := 1) X1 d7_7 rfl (by decide) <| o_iadd 9 (v := 2) X1 d7_8 rfl (by decide) ?_
  have f2 := F0.keep K1
  have f3 := F1.k0 K1
  have f4 := F2.k0 K1
  have f5 := F3.k0 K1
  refine mV 12 0 X1 f2 (rm_au90 G f2 f3 f4 f5) (u18 G) all0 d7_9 rfl rfl rfl lr (by decide) all0 ?_
  rintro _ _ _ _ X6 ⟨xa1_7, _, _, rfl, q10, q11, q12, _, q14, q15, _, _⟩ _ _ _
  refine sk [.ref xa1_7] rfl <| oV 13 (l' := #[rr pa1, rr xa1_7, uu]) X6 d7_12 rfl rfl rfl <| oA 14 X6 d7_13 rfl rfl <| ob 16 (v := 46) X6 d7_14 rfl (by decide) <| mV 19 0 X6 q10 (rm_au45 G q10 q11 q12 q14 pc_2) (u13 G) all0 d7_16 rfl rfl rfl lr (by decide) all0 ?_
  rintro _ _ _ _ X18 rfl K18 _ _
  refine sk [i0] rfl <| oT 20 (l' := #[rr pa1, rr xa1_7, ii 0]) X18 d7_19 rfl rfl <| oI 21 X18 d7_20 rfl rfl <| oy 28 X18 d7_21 (by decide) ((if0 _ _).trans (flt (by decide)).2.1) <| oA 29 X18 d7_28 rfl rfl <| oI 30 X18 d7_29 rfl rfl <| oc 31 (v := 1) X18 d7_30 rfl (by decide) <| o_iadd 32 (v := 1) X18 d7_31 rfl (by decide) ?_
  have f19 := q10.keep K18
  have f20 := q11.k0 K18
  have f21 := q12.k0 K18
  have f22 := q14.k0 K18
  have f23 := q15.keep K18
  refine mV 35 0 X18 f19 (rm_au17 G f19 f20 f21 f22 f23) (u18 G) all0 d7_32 rfl rfl rfl lr (by decide) all0 ?_
  rintro _ _ _ _ X24 ⟨xa1_25, xa2_26, xk1_27, rfl, q28, q29, q30, q31, _⟩ _ _ _
  refine sk [.ref xa1_25] rfl ?_
  exact oR X24 d7_35 rfl rfl rfl (by decide) (by decide) (fun _ CC => ⟨xa1_25, xa2_26, xk1_27, rfl, q28, q29, q30, q31, by omega⟩)
theorem rm_au93 (G : GL l Z a0 zc fmt) (F0 : av1 Z h0 pa1 pk1 3 [.int pi1, .int pi2, .int pi3]) (pc_0 : pi3 = (47 : Int32)) : M13 l Z 1 0 0 13 #[.ref pa1, .int 47, .int 2] h0 n0 [] [] (Q14 Z  h0) := by
  refine mi B13 ef10 (hEW G) fun s X0 hsf0 n0le => ?_
  have := F0.l
  refine oI 1 X0 d13_0 rfl rfl <| mS 4 0 X0 (rm_au8 G (by decide) (by decide)) (u9 G) all0 d13_1 rfl rfl rfl lr (by decide) all0 ?_
  rintro _ _ _ _ X1 rfl K1 _ _
  refine sk [.int 1] rfl <| oy 9 X1 d13_4 (by decide) ((if0 _ _).trans (feq (by decide)).2) <| oI 10 X1 d13_9 rfl rfl <| oA 11 X1 d13_10 rfl rfl ?_
  have f2 := F0.k0 K1
  refine oL 12 X1 f2 d13_11 rfl <| oc 13 (v := 1) X1 d13_12 rfl (by decide) <| o_isub 14 (v := 2) X1 d13_13 rfl (by decide) <| mS 17 0 X1 (rm_au9 G (by decide)) (u10 G) all0 d13_14 rfl rfl rfl lr (by decide) all0 ?_
  rintro _ _ _ _ X3 rfl K3 _ _
  refine sk [.int 2] rfl <| oT 18 (l' := #[rr pa1, ii 47, ii 2, ii 2]) X3 d13_17 rfl rfl <| oI 19 X3 d13_18 rfl rfl <| on 22 X3 d13_19 rfl ((if0 _ _).trans (flt (by decide)).1) <| oA 23 X3 d13_22 rfl rfl <| oI 24 X3 d13_23 rfl rfl ?_
  have f4 := f2.k0 K3
  refine oB 25 (v := (.int pi3)) X3 f4 ⟨by decide, by decide⟩ rfl d13_24 rfl <| oI 26 X3 d13_25 rfl rfl <| o_i2b 27 (v := 47) X3 d13_26 rfl (by decide) <| oN 30 X3 d13_27 rfl (teq pc_0).2 <| oI 31 X3 d13_30 rfl rfl ?_
  exact o_iret X3 d13_31 rfl (by decide) (by decide) (fun _ CC => rfl)
theorem rm_au94 (G : GL l Z a0 zc fmt) (F0 : ex1 Z h0 pa1) (F1 : fd0 Z h0 pa1 (.int 0)) (F2 : fd1 Z h0 pa1 (.ref pa2)) (F3 : av1 Z h0 pa2 pk1 3 [.int pi1, .int pi2, .int pi3]) (pc_0 : pi3 = (47 : Int32)) : M11 l Z 2 0 0 28 #[.ref pa1, .int 47, .int 2] h0 n0 [] [] (Q14 Z  h0) := by
  refine mi B11 ef9 (hEW G) fun s X0 hsf0 n0le => ?_
  have := F0.l
  have := F3.l
  refine oA 1 X0 d11_0 rfl rfl <| mV 4 0 X0 F0 (rm_au7 G F1 (by decide)) (u8 G) all0 d11_1 rfl rfl rfl lr (by decide) all0 ?_
  rintro _ _ _ _ X1 rfl K1 _ _
  refine sk [.int 1] rfl <| on 7 X1 d11_4 rfl ((if0 _ _).trans (feq (by decide)).1) <| oA 8 X1 d11_7 rfl rfl ?_
  have f2 := F2.k0 K1
  refine oF 11 X1 (w33 G) Via.refl f2 d11_8 rfl ?_
  intro _ X4
  refine oI 12 X4 d11_11 rfl rfl <| oI 13 X4 d11_12 rfl rfl ?_
  have f5 := F3.k0 K1
  refine mS 16 0 X4 (rm_au93 G f5 pc_0) (u11 G) all0 d11_13 rfl rfl rfl lr (by decide) all0 ?_
  rintro _ _ _ _ X6 rfl _ _ _
  refine sk [.int 2] rfl <| og 28 X6 d11_16 (by decide) ?_
  exact o_iret X6 d11_28 rfl (by decide) (by decide) (fun _ CC => rfl)
theorem rm_au95 (G : GL l Z a0 zc fmt) (F0 : ex1 Z h0 pa1) (F1 : fd0 Z h0 pa1 (.int 0)) (F2 : fd1 Z h0 pa1 (.ref pa2)) (F3 : av1 Z h0 pa2 pk1 3 [.int pi1, .int pi2, .int pi3]) (pc_0 : pi3 = (47 : Int32)) : M8 l Z 3 0 0 42 #[.ref pa1, .int 47] h0 n0 [] [] (Q14 Z  h0) := by
  refine mi B8 ef6 (hEW G) fun s X0 hsf0 n0le => ?_
  have := F0.l
  have := F3.l
  refine oA 1 X0 d8_0 rfl rfl <| oI 2 X0 d8_1 rfl rfl <| oA 3 X0 d8_2 rfl rfl <| mV 6 2 X0 F0 (rm_au58 G F0 F1 F2 F3) (u7 G) all0 d8_3 rfl rfl rfl lr (by decide) all0 ?_
  rintro _ _ _ _ X1 rfl K1 _ _
  refine sk [.int 3, .int 47, .ref pa1] rfl <| oc 7 (v := 1) X1 d8_6 rfl (by decide) <| o_isub 8 (v := 2) X1 d8_7 rfl (by decide) ?_
  have f2 := F0.keep K1
  have f3 := F1.k0 K1
  have f4 := F2.k0 K1
  have f5 := F3.k0 K1
  refine mV 11 0 X1 f2 (rm_au94 G f2 f3 f4 f5 pc_0) (u12 G) all0 d8_8 rfl rfl rfl lr (by decide) all0 ?_
  rintro _ _ _ _ X6 rfl _ _ _
  refine sk [.int 2] rfl ?_
  exact o_iret X6 d8_11 rfl (by decide) (by decide) (fun _ CC => rfl)
theorem rm_au96 (G : GL l Z a0 zc fmt) (F0 : ex1 Z h0 pa1) (F1 : fd0 Z h0 pa1 (.int 0)) (F2 : fd1 Z h0 pa1 (.ref pa2)) (F3 : av1 Z h0 pa2 pk1 3 ps_pa2) (F4 : ex0 Z h0 pa2) : M17 l Z 2 2 4 29 #[.ref pa1, .int 3, .int 3] h0 n0 [] [] (Q8 Z  h0) := by
  refine mi B17 ef13 (hEW G) fun s X0 hsf0 n0le => ?_
  have := F0.l
  have := F3.l
  refine oA 1 X0 d17_0 rfl rfl <| mV 4 0 X0 F0 (rm_au58 G F0 F1 F2 F3) (u7 G) all0 d17_1 rfl rfl rfl lr (by decide) all0 ?_
  rintro _ _ _ _ X1 rfl K1 _ _
  refine sk [.int 3] rfl <| oT 5 (l' := #[rr pa1, ii 3, ii 3, ii 3, uu]) X1 d17_4 rfl rfl <| oI 6 X1 d17_5 rfl rfl <| oI 7 X1 d17_6 rfl rfl <| oI 8 X1 d17_7 rfl rfl <| mS 11 0 X1 (rm_au14 G (by decide) (by decide) (by decide)) (u15 G) all0 d17_8 rfl rfl rfl lr (by decide) all0 ?_
  rintro _ _ _ _ X2 rfl K2 _ _
  refine sk [] rfl <| oI 12 X2 d17_11 rfl rfl <| oy 22 X2 d17_12 (by decide) ((if0 _ _).trans (feq (by decide)).2) <| oI 23 X2 d17_22 rfl rfl <| oI 24 X2 d17_23 rfl rfl <| o_isub 25 (v := 0) X2 d17_24 rfl (by decide) <| oS 27 (l' := #[rr pa1, ii 3, ii 3, ii 3, ii 0]) X2 d17_25 rfl rfl <| oA 28 X2 d17_27 rfl rfl ?_
  have f3 := (F1.k0 K1).k0 K2
  have f4 := (F0.keep K1).keep K2
  refine mV 31 0 X2 f4 (rm_au7 G f3 (by decide)) (u8 G) all0 d17_28 rfl rfl rfl lr (by decide) all0 ?_
  rintro _ _ _ _ X5 rfl K5 _ _
  refine sk [.int 1] rfl <| on 34 X5 d17_31 rfl ((if0 _ _).trans (feq (by decide)).1) <| oA 35 X5 d17_34 rfl rfl ?_
  have f6 := ((F2.k0 K1).k0 K2).k0 K5
  refine oF 38 X5 (w33 G) Via.refl f6 d17_35 rfl ?_
  intro _ X8
  refine oI 39 X8 d17_38 rfl rfl <| oi 41 X8 d17_39 rfl rfl ?_
  have f9 := ((F4.keep K1).keep K2).keep K5
  refine mS 44 0 X8 (rm_au15 G f9 (by decide)) (u16 G) all0 d17_41 rfl rfl rfl lr (by decide) all0 ?_
  rintro _ _ _ _ X10 ⟨xa1_11, xa2_12, xk1_13, rfl, q14, q15, q16, q17, _⟩ _ _ _
  refine sk [.ref xa1_11] rfl <| og 57 X10 d17_44 (by decide) ?_
  exact oR X10 d17_57 rfl rfl rfl (by decide) (by decide) (fun _ CC => ⟨xa1_11, xa2_12, xk1_13, rfl, q14, q15, q16, q17, by omega⟩)
theorem rm_au97 (G : GL l Z a0 zc fmt) (F0 : ex1 Z h0 pa1) (F1 : fd0 Z h0 pa1 (.int 0)) (F2 : fd1 Z h0 pa1 (.ref pa2)) (F3 : av1 Z h0 pa2 pk1 3 ps_pa2) (F4 : ex0 Z h0 pa2) : M16 l Z 3 2 4 45 #[.ref pa1, .int 3] h0 n0 [] [] (Q8 Z  h0) := by
  refine mi B16 ef6 (hEW G) fun s X0 hsf0 n0le => ?_
  have := F0.l
  have := F3.l
  refine oA 1 X0 d16_0 rfl rfl <| oI 2 X0 d16_1 rfl rfl <| oA 3 X0 d16_2 rfl rfl <| mV 6 2 X0 F0 (rm_au58 G F0 F1 F2 F3) (u7 G) all0 d16_3 rfl rfl rfl lr (by decide) all0 ?_
  rintro _ _ _ _ X1 rfl K1 _ _
  refine sk [.int 3, .int 3, .ref pa1] rfl ?_
  have f2 := F0.keep K1
  have f3 := F1.k0 K1
  have f4 := F2.k0 K1
  have f5 := F3.k0 K1
  have f6 := F4.keep K1
  refine mV 9 0 X1 f2 (rm_au96 G f2 f3 f4 f5 f6) (u17 G) all0 d16_6 rfl rfl rfl lr (by decide) all0 ?_
  rintro _ _ _ _ X7 ⟨xa1_8, xa2_9, xk1_10, rfl, q11, q12, q13, q14, _⟩ _ _ _
  refine sk [.ref xa1_8] rfl ?_
  exact oR X7 d16_9 rfl rfl rfl (by decide) (by decide) (fun _ CC => ⟨xa1_8, xa2_9, xk1_10, rfl, q11, q12, q13, q14, by omega⟩)
theorem rm_au98 (G : GL l Z a0 zc fmt) (F0 : ex1 Z h0 pa1) (F1 : fd0 Z h0 pa1 (.int 0)) (F2 : fd1 Z h0 pa1 (.ref pa2)) (F3 : av1 Z h0 pa2 pk1 3 [.int pi100, .int pi1, .int pi101]) (F4 : ex0 Z h0 pa2) (pc_0 : pi101 = (47 : Int32)) : M7 l Z 4 2 4 58 #[.ref pa1] h0 n0 [] [] (Q10 Z  h0) := by
  refine mi B7 ef7 (hEW G) fun s X0 hsf0 n0le => ?_
  have := F0.l
  have := F3.l
  refine oA 1 X0 d7_0 rfl rfl <| oA 2 X0 d7_1 rfl rfl <| ob 4 (v := 47) X0 d7_2 rfl (by decide) <| mV 7 1 X0 F0 (rm_au95 G F0 F1 F2 F3 pc_0) (u13 G) all0 d7_4 rfl rfl rfl lr (by decide) all0 ?_
  rintro _ _ _ _ X1 rfl K1 _ _
  refine sk [.int 2, .ref pa1] rfl <| oc 8 (v := 1) X1 d7_7 rfl (by decide) <| o_iadd 9 (v := 3) X1 d7_8 rfl (by decide) ?_
  have f2 := F0.keep K1
  have f3 := F1.k0 K1
  have f4 := F2.k0 K1
  have f5 := F3.k0 K1
  have f6 := F4.keep K1
  refine mV 12 0 X1 f2 (rm_au97 G f2 f3 f4 f5 f6) (u18 G) all0 d7_9 rfl rfl rfl lr (by decide) all0 ?_
  rintro _ _ _ _ X7 ⟨xa1_8, _, _, rfl, q11, q12, q13, q14, _⟩ _ _ _
  refine sk [.ref xa1_8] rfl <| oV 13 (l' := #[rr pa1, rr xa1_8, uu]) X7 d7_12 rfl rfl rfl <| oA 14 X7 d7_13 rfl rfl <| ob 16 (v := 46) X7 d7_14 rfl (by decide) <| mV 19 0 X7 q11 (rm_au21 G q11 q12 q13 q14) (u13 G) all0 d7_16 rfl rfl rfl lr (by decide) all0 ?_
  rintro _ _ _ _ X16 rfl _ _ _
  refine sk [.int (-1)] rfl <| oT 20 (l' := #[rr pa1, rr xa1_8, ii (-1)]) X16 d7_19 rfl rfl <| oI 21 X16 d7_20 rfl rfl <| on 24 X16 d7_21 rfl ((if0 _ _).trans (tlt (by decide)).2.1) <| o_aconstNull 25 X16 d7_24 rfl <| og 35 X16 d7_25 (by decide) ?_
  exact oR X16 d7_35 rfl rfl rfl (by decide) (by decide) (fun _ CC => rfl)
def Q25 (Z : State) (b1 : Addr) (b2 : ClassId) (b3 b4 b5 : Int32) (h0 : Heap) (v : Option Value) (h : Heap) (vm : Vm) : Prop := v = some (.int 4) ∧ av1 Z h b1 b2 4 [.int 47, .int (b3.toInt8.toInt32), .int (b4.toInt8.toInt32), .int (b5.toInt8.toInt32)] ∧ ex0 Z h b1
theorem rm_au99 (G : GL l Z a0 zc fmt) (F0 : av0 Z h0 pa1 pk1 4 [.int 47, .int pi1, .int pi2, .int pi3]) (F1 : av1 Z h0 pa2 pk2 4 [i0, i0, i0, i0]) (F2 : ex0 Z h0 pa2) (rg_pi1 : ¬ pi1 < 0 ∧ ¬ (255 : Int32) < pi1) (rg_pi2 : ¬ pi2 < 0 ∧ ¬ (255 : Int32) < pi2) (rg_pi3 : ¬ pi3 < 0 ∧ ¬ (255 : Int32) < pi3) (ne : NE pa1 pa2 ∧ n0 ≤ pa2) : M5 l Z 0 0 0 0 #[.ref pa1, i0, .ref pa2, i0, .int 4] h0 n0 [pa2] [pa2] (Q25 Z pa2 pk2 pi1 pi2 pi3 h0) := by
  refine mi B5 ef5 (hEW G) fun s X0 hsf0 n0le => ?_
  have := F0.l
  have := F1.l
  have sf_pa2 := hsf0 pa2 (by simp)
  refine oc 1 (v := 0) X0 d5_0 rfl (by decide) <| oS 3 (l' := #[rr pa1, ii 0, rr pa2, ii 0, ii 4, ii 0, uu]) X0 d5_1 rfl rfl <| oi 5 X0 d5_3 rfl rfl <| oi 7 X0 d5_5 rfl rfl <| oN 10 X0 d5_7 rfl (tlt (by decide)).2.1 <| oA 11 X0 d5_10 rfl rfl <| oI 12 X0 d5_11 rfl rfl <| oC 13 (v := (.int 47)) X0 F0 ⟨by decide, by decide⟩ rfl d5_12 rfl <| oS 15 (l' := #[rr pa1, ii 0, rr pa2, ii 0, ii 4, ii 0, ii 47]) X0 d5_13 rfl rfl <| oi 17 X0 d5_15 rfl rfl <| o_sipush 20 (v := 255) X0 d5_17 rfl (by decide) <| oY 26 X0 d5_20 (by decide) (flt (by decide)).2.2.2 ?_
  refine oA 27 X0 d5_26 rfl rfl <| oI 28 X0 d5_27 rfl rfl <| oi 30 X0 d5_28 rfl rfl <| o_i2b 31 (v := 47) X0 d5_30 rfl (by decide) <| sB 32 0 47 X0 F1 (by decide) (lb rfl) (by decide) d5_31 rfl (by omega) (Or.inl (by simp)) sf_pa2 ?_
  rintro _ _ X1 ⟨_, _, W1⟩ C1 V1
  have := W1.size
  have V2 := V1.as [.int 47, i0, i0, i0] rfl
  refine oJ 35 1 #[rr pa1, ii 1, rr pa2, ii 0, ii 4, ii 0, ii 47] X1 d5_32 rfl rfl (by decide) rfl <| oJ 38 1 #[rr pa1, ii 1, rr pa2, ii 1, ii 4, ii 0, ii 47] X1 d5_35 rfl rfl (by decide) rfl <| oJ 41 1 #[rr pa1, ii 1, rr pa2, ii 1, ii 4, ii 1, ii 47] X1 d5_38 rfl rfl (by decide) rfl <| og 3 X1 d5_41 (by decide) <| oi 5 X1 d5_3 rfl rfl <| oi 7 X1 d5_5 rfl rfl <| oN 10 X1 d5_7 rfl (tlt (by decide)).2.1 <| oA 11 X1 d5_10 rfl rfl <| oI 12 X1 d5_11 rfl rfl ?_
  have f3 := F0.oth W1 (by omega)
  refine oC 13 (v := (.int pi1)) X1 f3 ⟨by decide, by decide⟩ rfl d5_12 rfl <| oS 15 (l' := #[rr pa1, ii 1, rr pa2, ii 1, ii 4, ii 1, ii pi1]) X1 d5_13 rfl rfl <| oi 17 X1 d5_15 rfl rfl <| o_sipush 20 (v := 255) X1 d5_17 rfl (by decide) <| oY 26 X1 d5_20 (by decide) (flt rg_pi1.2).2.2.2 <| oA 27 X1 d5_26 rfl rfl <| oI 28 X1 d5_27 rfl rfl <| oi 30 X1 d5_28 rfl rfl <| o_i2b 31 (v := (pi1.toInt8.toInt32)) X1 d5_30 rfl rfl ?_
  have f5 := C1.safe (own_lt (by omega)) sf_pa2
  refine sB 32 1 (pi1.toInt8.toInt32) X1 V2 (by decide) (lb rfl) (own_narB _) d5_31 rfl (by omega) (Or.inl (by simp)) f5 ?_
  rintro _ _ X4 ⟨_, _, W4⟩ C4 V4
  have := W4.size
  have V6 := V4.as [.int 47, .int (pi1.toInt8.toInt32), i0, i0] rfl
  refine oJ 35 2 #[rr pa1, ii 2, rr pa2, ii 1, ii 4, ii 1, ii pi1] X4 d5_32 rfl rfl (by decide) rfl <| oJ 38 2 #[rr pa1, ii 2, rr pa2, ii 2, ii 4, ii 1, ii pi1] X4 d5_35 rfl rfl (by decide) rfl <| oJ 41 2 #[rr pa1, ii 2, rr pa2, ii 2, ii 4, ii 2, ii pi1] X4 d5_38 rfl rfl (by decide) rfl <| og 3 X4 d5_41 (by decide) <| oi 5 X4 d5_3 rfl rfl <| oi 7 X4 d5_5 rfl rfl <| oN 10 X4 d5_7 rfl (tlt (by decide)).2.1 <| oA 11 X4 d5_10 rfl rfl <| oI 12 X4 d5_11 rfl rfl ?_
  have f7 := f3.oth W4 (by omega)
  refine oC 13 (v := (.int pi2)) X4 f7 ⟨by decide, by decide⟩ rfl d5_12 rfl <| oS 15 (l' := #[rr pa1, ii 2, rr pa2, ii 2, ii 4, ii 2, ii pi2]) X4 d5_13 rfl rfl <| oi 17 X4 d5_15 rfl rfl <| o_sipush 20 (v := 255) X4 d5_17 rfl (by decide) <| oY 26 X4 d5_20 (by decide) (flt rg_pi2.2).2.2.2 <| oA 27 X4 d5_26 rfl rfl <| oI 28 X4 d5_27 rfl rfl <| oi 30 X4 d5_28 rfl rfl <| o_i2b 31 (v := (pi2.toInt8.toInt32)) X4 d5_30 rfl rfl ?_
  have f9 := C4.safe (own_lt (by omega)) f5
  refine sB 32 2 (pi2.toInt8.toInt32) X4 V6 (by decide) (lb rfl) (own_narB _) d5_31 rfl (by omega) (Or.inl (by simp)) f9 ?_
  rintro _ _ X8 ⟨_, _, W8⟩ C8 V8
  have := W8.size
  have V10 := V8.as [.int 47, .int (pi1.toInt8.toInt32), .int (pi2.toInt8.toInt32), i0] rfl
  refine oJ 35 3 #[rr pa1, ii 3, rr pa2, ii 2, ii 4, ii 2, ii pi2] X8 d5_32 rfl rfl (by decide) rfl <| oJ 38 3 #[rr pa1, ii 3, rr pa2, ii 3, ii 4, ii 2, ii pi2] X8 d5_35 rfl rfl (by decide) rfl <| oJ 41 3 #[rr pa1, ii 3, rr pa2, ii 3, ii 4, ii 3, ii pi2] X8 d5_38 rfl rfl (by decide) rfl <| og 3 X8 d5_41 (by decide) <| oi 5 X8 d5_3 rfl rfl <| oi 7 X8 d5_5 rfl rfl <| oN 10 X8 d5_7 rfl (tlt (by decide)).2.1 <| oA 11 X8 d5_10 rfl rfl <| oI 12 X8 d5_11 rfl rfl ?_
  have f11 := f7.oth W8 (by omega)
  refine oC 13 (v := (.int pi3)) X8 f11 ⟨by decide, by decide⟩ rfl d5_12 rfl <| oS 15 (l' := #[rr pa1, ii 3, rr pa2, ii 3, ii 4, ii 3, ii pi3]) X8 d5_13 rfl rfl <| oi 17 X8 d5_15 rfl rfl <| o_sipush 20 (v := 255) X8 d5_17 rfl (by decide) <| oY 26 X8 d5_20 (by decide) (flt rg_pi3.2).2.2.2 <| oA 27 X8 d5_26 rfl rfl <| oI 28 X8 d5_27 rfl rfl <| oi 30 X8 d5_28 rfl rfl <| o_i2b 31 (v := (pi3.toInt8.toInt32)) X8 d5_30 rfl rfl ?_
  have f13 := C8.safe (own_lt (by omega)) f9
  refine sB 32 3 (pi3.toInt8.toInt32) X8 V10 (by decide) (lb rfl) (own_narB _) d5_31 rfl (by omega) (Or.inl (by simp)) f13 ?_
  rintro _ _ X12 ⟨_, _, W12⟩ _ V12
  have := W12.size
  have V14 := V12.as [.int 47, .int (pi1.toInt8.toInt32), .int (pi2.toInt8.toInt32), .int (pi3.toInt8.toInt32)] rfl
  refine oJ 35 4 #[rr pa1, ii 4, rr pa2, ii 3, ii 4, ii 3, ii pi3] X12 d5_32 rfl rfl (by decide) rfl <| oJ 38 4 #[rr pa1, ii 4, rr pa2, ii 4, ii 4, ii 3, ii pi3] X12 d5_35 rfl rfl (by decide) rfl <| oJ 41 4 #[rr pa1, ii 4, rr pa2, ii 4, ii 4, ii 4, ii pi3] X12 d5_38 rfl rfl (by decide) rfl <| og 3 X12 d5_41 (by decide) <| oi 5 X12 d5_3 rfl rfl <| oi 7 X12 d5_5 rfl rfl <| oY 44 X12 d5_7 (by decide) (flt (by decide)).2.1 <| oi 46 X12 d5_44 rfl rfl ?_
  have f15 := (((F2.wr W1).wr W4).wr W8).wr W12
  exact o_iret X12 d5_46 rfl (by decide) (by decide) (fun _ CC => ⟨rfl, V14, f15⟩)
def Q26 (Z : State) (b1 b2 b3 : Int32) (h0 : Heap) (v : Option Value) (h : Heap) (vm : Vm) : Prop := ∃ (xa1 : Addr) (xk1 : ClassId), v = some (.ref xa1) ∧ av1 Z h xa1 xk1 4 [.int 47, .int (b1.toInt8.toInt32), .int (b2.toInt8.toInt32), .int (b3.toInt8.toInt32)] ∧ ex0 Z h xa1 ∧ Safe Z EL0 vm h xa1 ∧ h0.size ≤ xa1 ∧ h.size > xa1
theorem rm_au100 (G : GL l Z a0 zc fmt) (F0 : av0 Z h0 pa1 pk1 4 [.int 47, .int pi1, .int pi2, .int pi3]) (rg_pi1 : ¬ pi1 < 0 ∧ ¬ (255 : Int32) < pi1) (rg_pi2 : ¬ pi2 < 0 ∧ ¬ (255 : Int32) < pi2) (rg_pi3 : ¬ pi3 < 0 ∧ ¬ (255 : Int32) < pi3) : M4 l Z 1 1 4 18 #[.ref pa1, i0, .int 4] h0 n0 [] [] (Q26 Z pi1 pi2 pi3 h0) := by
  refine mi B4 ef4 (hEW G) fun s X0 hsf0 n0le => ?_
  have l1 := F0.l
  refine oI 1 X0 d4_0 rfl rfl <| nP (aty := .byte) 3 4 X0 (w24 G) d4_1 rfl (by decide) had_byte ?_
  intro _ h1 b1 k1 X1 _ l1 E1 V1 A1 _ S1
  have V2 : av1 Z h1 b1 k1 4 [i0, i0, i0, i0] := V1.pad (pad_rep [] (.int (0 : Int32)) 4)
  refine oV 4 (l' := #[rr pa1, ii 0, ii 4, rr b1, uu, uu]) X1 d4_3 rfl rfl rfl <| oA 5 X1 d4_4 rfl rfl <| oI 6 X1 d4_5 rfl rfl <| oA 7 X1 d4_6 rfl rfl <| oc 8 (v := 0) X1 d4_7 rfl (by decide) <| oI 9 X1 d4_8 rfl rfl ?_
  have f3 := F0.ext E1
  refine mS 12 0 X1 (rm_au99 G f3 V2 A1 rg_pi1 rg_pi2 rg_pi3 (by omega)) (u1 G) (sS (by omega) S1 all0) d4_9 rfl rfl rfl lr (by decide) (aR (by omega) all0) ?_
  rintro _ _ _ _ X4 ⟨rfl, q5, q6⟩ _ _ C4
  refine sk [.int 4] rfl <| oS 14 (l' := #[rr pa1, ii 0, ii 4, rr b1, ii 4, uu]) X4 d4_12 rfl rfl <| oi 16 X4 d4_14 rfl rfl <| oI 17 X4 d4_16 rfl rfl <| oY 57 X4 d4_17 (by decide) (teq (by decide)).1 <| oA 58 X4 d4_57 rfl rfl ?_
  have f7 := C4.safe (own_lt (by omega)) S1
  exact oR X4 d4_58 rfl rfl rfl (by decide) (by decide) (fun _ CC => ⟨b1, k1, rfl, q5, q6, (CC.safe (own_lt (by omega)) f7), by omega⟩)
theorem rm_au101 (G : GL l Z a0 zc fmt) (F0 : av1 Z h0 pa1 pk1 4 ps_pa1) : M6 l Z 0 0 0 0 #[.ref pa1, .int 4] h0 n0 [] [] (Q3 Z  h0) := by
  refine mi B6 ef6 (hEW G) fun s X0 hsf0 n0le => ?_
  have := F0.l
  refine oI 1 X0 d6_0 rfl rfl <| oA 2 X0 d6_1 rfl rfl <| oL 3 X0 F0 d6_2 rfl <| o_isub 4 (v := 0) X0 d6_3 rfl (by decide) <| ob 6 (v := 31) X0 d6_4 rfl (by decide) <| o_iushr 7 (v := 0) X0 d6_6 rfl (by decide) <| o_i2b 8 (v := 0) X0 d6_7 rfl (by decide) ?_
  exact o_nret (y := (0 : Int32)) (t := .byte) X0 d6_8 rfl (by decide) (by simp) (by decide) (by decide) (fun _ CC => rfl)
def Q27 (Z : State) (b1 : Addr) (b2 b3 b4 : Int32) (h0 : Heap) (v : Option Value) (h : Heap) (vm : Vm) : Prop := ∃ (xa1 : Addr) (xk1 : ClassId), v = none ∧ ex1 Z h b1 ∧ fd0 Z h b1 (.int 0) ∧ fd1 Z h b1 (.ref xa1) ∧ av1 Z h xa1 xk1 4 [.int 47, .int (b2.toInt8.toInt32), .int (b3.toInt8.toInt32), .int (b4.toInt8.toInt32)] ∧ ex0 Z h xa1 ∧ Safe Z EL0 vm h xa1 ∧ h0.size ≤ xa1 ∧ h.size > xa1
theorem rm_au102 (G : GL l Z a0 zc fmt) (F0 : ex1 Z h0 pa1) (F1 : fd0 Z h0 pa1 (.int 0)) (F2 : fd1 Z h0 pa1 .null) (F3 : av0 Z h0 pa2 pk1 4 [.int 47, .int pi1, .int pi2, .int pi3]) (rg_pi1 : ¬ pi1 < 0 ∧ ¬ (255 : Int32) < pi1) (rg_pi2 : ¬ pi2 < 0 ∧ ¬ (255 : Int32) < pi2) (rg_pi3 : ¬ pi3 < 0 ∧ ¬ (255 : Int32) < pi3) (ne : NE pa1 pa2 ∧ n0 ≤ pa1) : M3 l Z 2 1 4 35 #[.ref pa1, .ref pa2, i0, .int 4, .null] h0 n0 [pa1] [pa1] (Q27 Z pa1 pi1 pi2 pi3 h0) := by
  refine mi B3 ef3 (hEW G) fun s X0 hsf0 n0le => ?_
  have := F0.l
  have := F3.l
  have sf_pa1 := hsf0 pa1 (by simp)
  refine oA 1 X0 d3_0 rfl rfl <| o_initO 4 (W := 0) X0 (w16 G) (w17 G) (w18 G) rfl (by decide) (Nat.le_of_eq rfl) (by decide) d3_1 rfl ?_
  intro _ X2
  refine oI 5 X2 d3_4 rfl rfl <| oy 27 X2 d3_5 (by decide) ((if0 _ _).trans (feq (by decide)).2) <| oG 30 X2 (w19 G) Via.refl ((sg1 G).ext X2.old.2) d3_27 rfl ?_
  intro _ X4
  refine on 33 X4 d3_30 rfl ((if0 _ _).trans (feq (hzc G)).1) <| oA 34 X4 d3_33 rfl rfl <| oI 35 X4 d3_34 rfl rfl <| oI 36 X4 d3_35 rfl rfl <| mS 39 0 X4 (rm_au100 G F3 rg_pi1 rg_pi2 rg_pi3) (u2 G) all0 d3_36 rfl rfl rfl lr (by decide) all0 ?_
  rintro _ _ _ _ X5 ⟨xa1_6, xk1_7, rfl, q8, q9, q10, _⟩ K5 _ C5
  refine sk [.ref xa1_6] rfl <| oU 41 (l' := #[rr pa1, rr pa2, ii 0, ii 4, .val .null, rr xa1_6]) X5 d3_39 rfl rfl rfl <| oA 42 X5 d3_41 rfl rfl <| oa 44 X5 d3_42 rfl rfl <| oI 45 X5 d3_44 rfl rfl <| mS 48 1 X5 (rm_au101 G q8) (u3 G) all0 d3_45 rfl rfl rfl lr (by decide) all0 ?_
  rintro _ _ _ _ X12 rfl K12 _ C12
  refine sk [i0, .ref pa1] rfl ?_
  have f13 := (F1.k0 K5).k0 K12
  have f14 := (F0.keep K5).keep K12
  have f16 := C12.safe (own_lt (by omega)) (C5.safe (own_lt (by omega)) sf_pa1)
  refine oP 51 (v' := (.int 0)) X12 (w31 G) Via.refl f13 f14 (Or.inr ⟨(w32 G), rfl, rfl⟩) (w7 G) fd_0 rfl rfl d3_48 rfl (by omega) (Or.inl (by simp)) f16 ?_
  intro _ _ X15 W15 C15
  have := W15.size
  have f17 := f13.same W15
  refine oA 52 X15 d3_51 rfl rfl <| oa 54 X15 d3_52 rfl rfl ?_
  have f18 := ((F2.k0 K5).k0 K12).other W15 (Or.inr (sn0 G))
  have f19 := f14.wr W15
  have f21 := C15.safe (own_lt (by omega)) f16
  refine oP 57 (v' := (.ref xa1_6)) X15 (w33 G) Via.refl f18 f19 (Or.inr ⟨(w34 G), rfl, rfl⟩) (w7 G) fd_1 rfl rfl d3_54 rfl (by omega) (Or.inl (by simp)) f21 ?_
  intro _ _ X20 W20 C20
  have := W20.size
  have f22 := f18.same W20
  have f23 := f19.wr W20
  have f24 := f17.other W20 (Or.inr (sn1 G))
  have f25 := ((q8.k0 K12).oth W15 (by omega)).oth W20 (by omega)
  have f26 := ((q9.keep K12).wr W15).wr W20
  have f27 := C20.safe (own_lt (by omega)) (C15.safe (own_lt (by omega)) (C12.safe (own_lt (by omega)) q10))
  exact oz X20 d3_57 rfl (by decide) (by decide) (fun _ CC => ⟨xa1_6, xk1_7, rfl, f23, f24, f22, f25, f26, (CC.safe (own_lt (by omega)) f27), by omega⟩)
theorem rm_au103 (G : GL l Z a0 zc fmt) (F0 : ex1 Z h0 pa1) (F1 : fd0 Z h0 pa1 (.int 0)) (F2 : fd1 Z h0 pa1 .null) (F3 : av0 Z h0 pa2 pk1 4 [.int 47, .int pi1, .int pi2, .int pi3]) (rg_pi1 : ¬ pi1 < 0 ∧ ¬ (255 : Int32) < pi1) (rg_pi2 : ¬ pi2 < 0 ∧ ¬ (255 : Int32) < pi2) (rg_pi3 : ¬ pi3 < 0 ∧ ¬ (255 : Int32) < pi3) (ne : NE pa1 pa2 ∧ n0 ≤ pa1) : M2 l Z 3 1 4 52 #[.ref pa1, .ref pa2] h0 n0 [pa1] [pa1] (Q27 Z pa1 pi1 pi2 pi3 h0) := by
  refine mi B2 ef2 (hEW G) fun s X0 hsf0 n0le => ?_
  have := F0.l
  have := F3.l
  have sf_pa1 := hsf0 pa1 (by simp)
  refine oA 1 X0 d2_0 rfl rfl <| oA 2 X0 d2_1 rfl rfl <| oc 3 (v := 0) X0 d2_2 rfl (by decide) <| oA 4 X0 d2_3 rfl rfl <| oL 5 X0 F3 d2_4 rfl <| o_aconstNull 6 X0 d2_5 rfl <| mP 9 0 X0 (rm_au102 G F0 F1 F2 F3 rg_pi1 rg_pi2 rg_pi3 (by omega)) (u4 G) (sS (by omega) sf_pa1 all0) d2_6 rfl rfl rfl lr (by decide) (aI (by omega) (by simp) all0) ?_
  rintro _ _ _ _ X1 ⟨xa1_2, xk1_3, rfl, q4, q5, q6, q7, q8, q9, _⟩ _ _ _
  refine sk [] rfl ?_
  exact oz X1 d2_9 rfl (by decide) (by decide) (fun _ CC => ⟨xa1_2, xk1_3, rfl, q4, q5, q6, q7, q8, (CC.safe (own_lt (by omega)) q9), by omega⟩)
def Q28 (Z : State) (h0 : Heap) (v : Option Value) (h : Heap) (vm : Vm) : Prop := v = some (.int 4)
theorem rm_au104 (G : GL l Z a0 zc fmt) (F0 : ex1 Z h0 pa1) (F1 : fd0 Z h0 pa1 (.int 0)) (F2 : fd1 Z h0 pa1 (.ref pa2)) (F3 : av1 Z h0 pa2 pk1 4 ps_pa2) : M9 l Z 1 0 0 13 #[.ref pa1] h0 n0 [] [] (Q28 Z  h0) := by
  refine mi B9 ef8 (hEW G) fun s X0 hsf0 n0le => ?_
  have := F0.l
  have := F3.l
  refine oA 1 X0 d9_0 rfl rfl <| oF 4 X0 (w33 G) Via.refl F2 d9_1 rfl ?_
  intro _ X2
  refine oL 5 X2 F3 d9_4 rfl <| oA 6 X2 d9_5 rfl rfl <| mV 9 1 X2 F0 (rm_au5 G F1) (u6 G) all0 d9_6 rfl rfl rfl lr (by decide) all0 ?_
  rintro _ _ _ _ X3 rfl _ _ _
  refine sk [i0, .int 4] rfl <| o_ishr 10 (v := 4) X3 d9_9 rfl (by decide) ?_
  exact o_iret X3 d9_10 rfl (by decide) (by decide) (fun _ CC => rfl)
theorem rm_au105 (G : GL l Z a0 zc fmt) (F0 : av1 Z h0 pa1 pk1 4 [.int pi1, .int pi2, .int pi3, .int pi4]) (nk_pi2_47 : ¬ pi2 = (47 : Int32)) (nk_pi3_47 : ¬ pi3 = (47 : Int32)) (nk_pi4_47 : ¬ pi4 = (47 : Int32)) (pc_0 : pi1 = (47 : Int32)) : M13 l Z 1 0 0 13 #[.ref pa1, .int 47, .int 3] h0 n0 [] [] (Q3 Z  h0) := by
  refine mi B13 ef10 (hEW G) fun s X0 hsf0 n0le => ?_
  have := F0.l
  refine oI 1 X0 d13_0 rfl rfl <| mS 4 0 X0 (rm_au8 G (by decide) (by decide)) (u9 G) all0 d13_1 rfl rfl rfl lr (by decide) all0 ?_
  rintro _ _ _ _ X1 rfl K1 _ _
  refine sk [.int 1] rfl <| oy 9 X1 d13_4 (by decide) ((if0 _ _).trans (feq (by decide)).2) <| oI 10 X1 d13_9 rfl rfl <| oA 11 X1 d13_10 rfl rfl ?_
  have f2 := F0.k0 K1
  refine oL 12 X1 f2 d13_11 rfl <| oc 13 (v := 1) X1 d13_12 rfl (by decide) <| o_isub 14 (v := 3) X1 d13_13 rfl (by decide) <| mS 17 0 X1 (rm_au9 G (by decide)) (u10 G) all0 d13_14 rfl rfl rfl lr (by decide) all0 ?_
  rintro _ _ _ _ X3 rfl K3 _ _
  refine sk [.int 3] rfl <| oT 18 (l' := #[rr pa1, ii 47, ii 3, ii 3]) X3 d13_17 rfl rfl <| oI 19 X3 d13_18 rfl rfl <| on 22 X3 d13_19 rfl ((if0 _ _).trans (flt (by decide)).1) <| oA 23 X3 d13_22 rfl rfl <| oI 24 X3 d13_23 rfl rfl ?_
  have f4 := f2.k0 K3
  refine oB 25 (v := (.int pi4)) X3 f4 ⟨by decide, by decide⟩ rfl d13_24 rfl <| oI 26 X3 d13_25 rfl rfl <| o_i2b 27 (v := 47) X3 d13_26 rfl (by decide) <| oY 32 X3 d13_27 (by decide) (feq nk_pi4_47).2 <| oJ 35 2 #[rr pa1, ii 47, ii 3, ii 2] X3 d13_32 rfl rfl (by decide) rfl <| og 18 X3 d13_35 (by decide) <| oI 19 X3 d13_18 rfl rfl <| on 22 X3 d13_19 rfl ((if0 _ _).trans (flt (by decide)).1) <| oA 23 X3 d13_22 rfl rfl <| oI 24 X3 d13_23 rfl rfl <| oB 25 (v := (.int pi3)) X3 f4 ⟨by decide, by decide⟩ rfl d13_24 rfl <| oI 26 X3 d13_25 rfl rfl ?_
  refine o_i2b 27 (v := 47) X3 d13_26 rfl (by decide) <| oY 32 X3 d13_27 (by decide) (feq nk_pi3_47).2 <| oJ 35 1 #[rr pa1, ii 47, ii 3, ii 1] X3 d13_32 rfl rfl (by decide) rfl <| og 18 X3 d13_35 (by decide) <| oI 19 X3 d13_18 rfl rfl <| on 22 X3 d13_19 rfl ((if0 _ _).trans (flt (by decide)).1) <| oA 23 X3 d13_22 rfl rfl <| oI 24 X3 d13_23 rfl rfl <| oB 25 (v := (.int pi2)) X3 f4 ⟨by decide, by decide⟩ rfl d13_24 rfl <| oI 26 X3 d13_25 rfl rfl <| o_i2b 27 (v := 47) X3 d13_26 rfl (by decide) <| oY 32 X3 d13_27 (by decide) (feq nk_pi2_47).2 ?_
  refine oJ 35 0 #[rr pa1, ii 47, ii 3, ii 0] X3 d13_32 rfl rfl (by decide) rfl <| og 18 X3 d13_35 (by decide) <| oI 19 X3 d13_18 rfl rfl <| on 22 X3 d13_19 rfl ((if0 _ _).trans (flt (by decide)).1) <| oA 23 X3 d13_22 rfl rfl <| oI 24 X3 d13_23 rfl rfl <| oB 25 (v := (.int pi1)) X3 f4 ⟨by decide, by decide⟩ rfl d13_24 rfl <| oI 26 X3 d13_25 rfl rfl <| o_i2b 27 (v := 47) X3 d13_26 rfl (by decide) <| oN 30 X3 d13_27 rfl (teq pc_0).2 <| oI 31 X3 d13_30 rfl rfl ?_
  exact o_iret X3 d13_31 rfl (by decide) (by decide) (fun _ CC => rfl)
theorem rm_au106 (G : GL l Z a0 zc fmt) (F0 : ex1 Z h0 pa1) (F1 : fd0 Z h0 pa1 (.int 0)) (F2 : fd1 Z h0 pa1 (.ref pa2)) (F3 : av1 Z h0 pa2 pk1 4 [.int pi1, .int pi2, .int pi3, .int pi4]) (nk_pi2_47 : ¬ pi2 = (47 : Int32)) (nk_pi3_47 : ¬ pi3 = (47 : Int32)) (nk_pi4_47 : ¬ pi4 = (47 : Int32)) (pc_0 : pi1 = (47 : Int32)) : M11 l Z 2 0 0 28 #[.ref pa1, .int 47, .int 3] h0 n0 [] [] (Q3 Z  h0) := by
  refine mi B11 ef9 (hEW G) fun s X0 hsf0 n0le => ?_
  have := F0.l
  have := F3.l
  refine oA 1 X0 d11_0 rfl rfl <| mV 4 0 X0 F0 (rm_au7 G F1 (by decide)) (u8 G) all0 d11_1 rfl rfl rfl lr (by decide) all0 ?_
  rintro _ _ _ _ X1 rfl K1 _ _
  refine sk [.int 1] rfl <| on 7 X1 d11_4 rfl ((if0 _ _).trans (feq (by decide)).1) <| oA 8 X1 d11_7 rfl rfl ?_
  have f2 := F2.k0 K1
  refine oF 11 X1 (w33 G) Via.refl f2 d11_8 rfl ?_
  intro _ X4
  refine oI 12 X4 d11_11 rfl rfl <| oI 13 X4 d11_12 rfl rfl ?_
  have f5 := F3.k0 K1
  refine mS 16 0 X4 (rm_au105 G f5 nk_pi2_47 nk_pi3_47 nk_pi4_47 pc_0) (u11 G) all0 d11_13 rfl rfl rfl lr (by decide) all0 ?_
  rintro _ _ _ _ X6 rfl _ _ _
  refine sk [i0] rfl <| og 28 X6 d11_16 (by decide) ?_
  exact o_iret X6 d11_28 rfl (by decide) (by decide) (fun _ CC => rfl)
theorem rm_au107 (G : GL l Z a0 zc fmt) (F0 : ex1 Z h0 pa1) (F1 : fd0 Z h0 pa1 (.int 0)) (F2 : fd1 Z h0 pa1 (.ref pa2)) (F3 : av1 Z h0 pa2 pk1 4 [.int pi1, .int pi2, .int pi3, .int pi4]) (nk_pi2_47 : ¬ pi2 = (47 : Int32)) (nk_pi3_47 : ¬ pi3 = (47 : Int32)) (nk_pi4_47 : ¬ pi4 = (47 : Int32)) (pc_0 : pi1 = (47 : Int32)) : M8 l Z 3 0 0 42 #[.ref pa1, .int 47] h0 n0 [] [] (Q3 Z  h0) := by
  refine mi B8 ef6 (hEW G) fun s X0 hsf0 n0le => ?_
  have := F0.l
  have := F3.l
  refine oA 1 X0 d8_0 rfl rfl <| oI 2 X0 d8_1 rfl rfl <| oA 3 X0 d8_2 rfl rfl <| mV 6 2 X0 F0 (rm_au104 G F0 F1 F2 F3) (u7 G) all0 d8_3 rfl rfl rfl lr (by decide) all0 ?_
  rintro _ _ _ _ X1 rfl K1 _ _
  refine sk [.int 4, .int 47, .ref pa1] rfl <| oc 7 (v := 1) X1 d8_6 rfl (by decide) <| o_isub 8 (v := 3) X1 d8_7 rfl (by decide) ?_
  have f2 := F0.keep K1
  have f3 := F1.k0 K1
  have f4 := F2.k0 K1
  have f5 := F3.k0 K1
  refine mV 11 0 X1 f2 (rm_au106 G f2 f3 f4 f5 nk_pi2_47 nk_pi3_47 nk_pi4_47 pc_0) (u12 G) all0 d8_8 rfl rfl rfl lr (by decide) all0 ?_
  rintro _ _ _ _ X6 rfl _ _ _
  refine sk [i0] rfl ?_
  exact o_iret X6 d8_11 rfl (by decide) (by decide) (fun _ CC => rfl)
def Q29 (Z : State) (b1 b2 b3 : Int32) (h0 : Heap) (v : Option Value) (h : Heap) (vm : Vm) : Prop := ∃ (xa1 : Addr) (xk1 : ClassId), v = some (.ref xa1) ∧ av1 Z h xa1 xk1 3 [.int b1, .int b2, .int b3] ∧ ex0 Z h xa1 ∧ Safe Z EL0 vm h xa1 ∧ h0.size ≤ xa1 ∧ h.size > xa1
theorem rm_au108 (G : GL l Z a0 zc fmt) (F0 : av1 Z h0 pa1 pk1 4 [.int pi1, .int pi2, .int pi3, .int pi4]) : M22 l Z 1 1 3 40 #[.ref pa1, .int 1, .int 4] h0 n0 [] [] (Q29 Z pi2 pi3 pi4 h0) := by
  refine mi B22 ef13 (hEW G) fun s X0 hsf0 n0le => ?_
  have := F0.l
  refine oI 1 X0 d22_0 rfl rfl <| oI 2 X0 d22_1 rfl rfl <| mS 5 0 X0 (rm_au32 G (by decide)) (u20 G) all0 d22_2 rfl rfl rfl lr (by decide) all0 ?_
  rintro _ _ _ _ X1 rfl K1 _ _
  refine sk [] rfl <| oI 6 X1 d22_5 rfl rfl <| oI 7 X1 d22_6 rfl rfl <| o_isub 8 (v := 3) X1 d22_7 rfl (by decide) <| oT 9 (l' := #[rr pa1, ii 1, ii 4, ii 3, uu]) X1 d22_8 rfl rfl <| oI 10 X1 d22_9 rfl rfl <| nP (aty := .byte) 12 3 X1 (w24 G) d22_10 rfl (by decide) had_byte ?_
  intro _ h2 b2 k2 X2 _ _ E2 V2 A2 _ S2
  have V3 : av1 Z h2 b2 k2 3 [i0, i0, i0] := V2.pad (pad_rep [] (.int (0 : Int32)) 3)
  refine oU 14 (l' := #[rr pa1, ii 1, ii 4, ii 3, rr b2]) X2 d22_12 rfl rfl rfl <| oA 15 X2 d22_14 rfl rfl <| oI 16 X2 d22_15 rfl rfl <| oa 18 X2 d22_16 rfl rfl <| oc 19 (v := 0) X2 d22_18 rfl (by decide) <| oA 20 X2 d22_19 rfl rfl ?_
  have f4 := (F0.k0 K1).ext E2
  refine oL 21 X2 f4 d22_20 rfl <| oI 22 X2 d22_21 rfl rfl <| o_isub 23 (v := 3) X2 d22_22 rfl (by decide) <| oI 24 X2 d22_23 rfl rfl <| mS 27 4 X2 (rm_au9 G (by decide)) (u21 G) all0 d22_24 rfl rfl rfl lr (by decide) all0 ?_
  rintro _ _ _ _ X5 rfl K5 _ C5
  refine sk [.int 3, i0, .ref b2, .int 1, .ref pa1] rfl ?_
  have f6 := f4.k0 K5
  have f7 := V3.k0 K5
  have f8 := C5.safe (own_lt (by omega)) S2
  refine o_cp 30 (us := [.int pi2, .int pi3, .int pi4]) (vr := [.int pi2, .int pi3, .int pi4]) (W := 0) X5 (w111 G) (w114 G) (w112 G) (w113 G) f6 f7 (Or.inl ⟨rfl, rfl⟩) (by decide) (by decide) (by decide) (by decide) (by decide) rfl (Nat.le_of_ble_eq_true rfl) rfl d22_27 rfl rfl (by decide) (Nat.le_of_eq rfl) (by decide) (by omega) (Or.inr (by omega)) f8 ?_
  intro _ _ X9 K9 C9 V9
  have := K9.1
  refine oa 32 X9 d22_30 rfl rfl ?_
  have f10 := (A2.keep K5).keep K9
  have f11 := C9.safe (own_lt (by omega)) f8
  exact oR X9 d22_32 rfl rfl rfl (by decide) (by decide) (fun _ CC => ⟨b2, k2, rfl, V9, f10, (CC.safe (own_lt (by omega)) f11), by omega⟩)
theorem rm_au109 (G : GL l Z a0 zc fmt) (F0 : av1 Z h0 pa1 pk1 4 [.int pi1, .int pi2, .int pi3, .int pi4]) : M21 l Z 2 1 3 56 #[.ref pa1, .int 1, .int 4] h0 n0 [] [] (Q29 Z pi2 pi3 pi4 h0) := by
  refine mi B21 ef9 (hEW G) fun s X0 hsf0 n0le => ?_
  have := F0.l
  refine oI 1 X0 d21_0 rfl rfl <| oy 10 X0 d21_1 (by decide) ((if0 _ _).trans (feq (by decide)).2) <| oA 11 X0 d21_10 rfl rfl <| oI 12 X0 d21_11 rfl rfl <| oI 13 X0 d21_12 rfl rfl <| mS 16 0 X0 (rm_au108 G F0) (u22 G) all0 d21_13 rfl rfl rfl lr (by decide) all0 ?_
  rintro _ _ _ _ X1 ⟨xa1_2, xk1_3, rfl, q4, q5, q6, _⟩ _ _ _
  refine sk [.ref xa1_2] rfl ?_
  exact oR X1 d21_16 rfl rfl rfl (by decide) (by decide) (fun _ CC => ⟨xa1_2, xk1_3, rfl, q4, q5, (CC.safe (own_lt (by omega)) q6), by omega⟩)
def Q30 (Z : State) (b1 b2 b3 : Int32) (h0 : Heap) (v : Option Value) (h : Heap) (vm : Vm) : Prop := ∃ (xa1 : Addr) (xa2 : Addr) (xk1 : ClassId), v = some (.ref xa1) ∧ ex1 Z h xa1 ∧ fd0 Z h xa1 (.int 0) ∧ fd1 Z h xa1 (.ref xa2) ∧ Safe Z EL0 vm h xa1 ∧ av1 Z h xa2 xk1 3 [.int b1, .int b2, .int b3] ∧ ex0 Z h xa2 ∧ Safe Z EL0 vm h xa2 ∧ h0.size ≤ xa1 ∧ h.size > xa1 ∧ h0.size ≤ xa2 ∧ h.size > xa2 ∧ NE xa1 xa2
theorem rm_au110 (G : GL l Z a0 zc fmt) (F0 : av1 Z h0 pa1 pk1 4 [.int pi1, .int pi2, .int pi3, .int pi4]) : M20 l Z 3 2 7 72 #[.ref pa1, .int 1, .int 3] h0 n0 [] [] (Q30 Z pi2 pi3 pi4 h0) := by
  refine mi B20 ef9 (hEW G) fun s X0 hsf0 n0le => ?_
  have l1 := F0.l
  refine oI 1 X0 d20_0 rfl rfl <| oy 7 X0 d20_1 (by decide) ((if0 _ _).trans (feq (by decide)).2) <| o_new 10 X0 (w99 G) (w7 G) (w8 G) d20_7 rfl (by decide) (by decide) ?_
  intro _ h1 b1 X1 _ l1 E1 A1 D1 _ _ S1
  have f2 : fd0 Z h1 b1 (.int 0) := D1 (Or.inr (w32 G)) fd_0
  have f3 : fd1 Z h1 b1 .null := D1 (Or.inr (w34 G)) fd_1
  refine oD 11 X1 d20_10 rfl rfl <| oA 12 X1 d20_11 rfl rfl <| oI 13 X1 d20_12 rfl rfl <| oI 14 X1 d20_13 rfl rfl <| oI 15 X1 d20_14 rfl rfl <| o_iadd 16 (v := 4) X1 d20_15 rfl (by decide) ?_
  have f4 := F0.ext E1
  refine mS 19 2 X1 (rm_au109 G f4) (u23 G) all0 d20_16 rfl rfl rfl lr (by decide) all0 ?_
  rintro _ _ _ _ X5 ⟨xa1_6, xk1_7, rfl, q8, q9, q10, _⟩ K5 _ C5
  refine sk [.ref xa1_6, .ref b1, .ref b1] rfl <| oc 20 (v := 0) X5 d20_19 rfl (by decide) ?_
  have f12 := A1.keep K5
  have f13 := f2.k0 K5
  have f14 := f3.k0 K5
  have f15 := C5.safe (own_lt (by omega)) S1
  refine mP 23 1 X5 (rm_au35 G f12 f13 f14 (by omega)) (u24 G) (sS (by omega) f15 all0) d20_20 rfl rfl rfl lr (by decide) (aR (by omega) all0) ?_
  rintro _ _ _ _ X16 ⟨rfl, q17, q18, q19⟩ K16 _ C16
  refine sk [.ref b1] rfl ?_
  have f20 := C16.safe (own_lt (by omega)) f15
  have f21 := q8.k1 K16 (by omega)
  have f22 := q9.keep K16
  have f23 := C16.safe (own_lt (by omega)) q10
  exact oR X16 d20_23 rfl rfl rfl (by decide) (by decide) (fun _ CC => ⟨b1, xa1_6, xk1_7, rfl, q17, q18, q19, (CC.safe (own_lt (by omega)) f20), f21, f22, (CC.safe (own_lt (by omega)) f23), by omega⟩)
theorem rm_au111 (G : GL l Z a0 zc fmt) (F0 : ex1 Z h0 pa1) (F1 : fd0 Z h0 pa1 (.int 0)) (F2 : fd1 Z h0 pa1 (.ref pa2)) (F3 : av1 Z h0 pa2 pk1 4 [.int pi1, .int pi2, .int pi3, .int pi4]) : M17 l Z 4 2 7 86 #[.ref pa1, .int 1, .int 4] h0 n0 [] [] (Q30 Z pi2 pi3 pi4 h0) := by
  refine mi B17 ef13 (hEW G) fun s X0 hsf0 n0le => ?_
  have := F0.l
  have := F3.l
  refine oA 1 X0 d17_0 rfl rfl <| mV 4 0 X0 F0 (rm_au104 G F0 F1 F2 F3) (u7 G) all0 d17_1 rfl rfl rfl lr (by decide) all0 ?_
  rintro _ _ _ _ X1 rfl K1 _ _
  refine sk [.int 4] rfl <| oT 5 (l' := #[rr pa1, ii 1, ii 4, ii 4, uu]) X1 d17_4 rfl rfl <| oI 6 X1 d17_5 rfl rfl <| oI 7 X1 d17_6 rfl rfl <| oI 8 X1 d17_7 rfl rfl <| mS 11 0 X1 (rm_au14 G (by decide) (by decide) (by decide)) (u15 G) all0 d17_8 rfl rfl rfl lr (by decide) all0 ?_
  rintro _ _ _ _ X2 rfl K2 _ _
  refine sk [] rfl <| oI 12 X2 d17_11 rfl rfl <| oy 22 X2 d17_12 (by decide) ((if0 _ _).trans (feq (by decide)).2) <| oI 23 X2 d17_22 rfl rfl <| oI 24 X2 d17_23 rfl rfl <| o_isub 25 (v := 3) X2 d17_24 rfl (by decide) <| oS 27 (l' := #[rr pa1, ii 1, ii 4, ii 4, ii 3]) X2 d17_25 rfl rfl <| oA 28 X2 d17_27 rfl rfl ?_
  have f3 := (F1.k0 K1).k0 K2
  have f4 := (F0.keep K1).keep K2
  refine mV 31 0 X2 f4 (rm_au7 G f3 (by decide)) (u8 G) all0 d17_28 rfl rfl rfl lr (by decide) all0 ?_
  rintro _ _ _ _ X5 rfl K5 _ _
  refine sk [.int 1] rfl <| on 34 X5 d17_31 rfl ((if0 _ _).trans (feq (by decide)).1) <| oA 35 X5 d17_34 rfl rfl ?_
  have f6 := ((F2.k0 K1).k0 K2).k0 K5
  refine oF 38 X5 (w33 G) Via.refl f6 d17_35 rfl ?_
  intro _ X8
  refine oI 39 X8 d17_38 rfl rfl <| oi 41 X8 d17_39 rfl rfl ?_
  have f9 := ((F3.k0 K1).k0 K2).k0 K5
  refine mS 44 0 X8 (rm_au110 G f9) (u16 G) all0 d17_41 rfl rfl rfl lr (by decide) all0 ?_
  rintro _ _ _ _ X10 ⟨xa1_11, xa2_12, xk1_13, rfl, q14, q15, q16, q17, q18, q19, q20, _⟩ _ _ _
  refine sk [.ref xa1_11] rfl <| og 57 X10 d17_44 (by decide) ?_
  exact oR X10 d17_57 rfl rfl rfl (by decide) (by decide) (fun _ CC => ⟨xa1_11, xa2_12, xk1_13, rfl, q14, q15, q16, (CC.safe (own_lt (by omega)) q17), q18, q19, (CC.safe (own_lt (by omega)) q20), by omega⟩)
theorem rm_au112 (G : GL l Z a0 zc fmt) (F0 : ex1 Z h0 pa1) (F1 : fd0 Z h0 pa1 (.int 0)) (F2 : fd1 Z h0 pa1 (.ref pa2)) (F3 : av1 Z h0 pa2 pk1 4 [.int pi1, .int pi2, .int pi3, .int pi4]) : M16 l Z 5 2 7 102 #[.ref pa1, .int 1] h0 n0 [] [] (Q30 Z pi2 pi3 pi4 h0) := by
  refine mi B16 ef6 (hEW G) fun s X0 hsf0 n0le => ?_
  have := F0.l
  have := F3.l
  refine oA 1 X0 d16_0 rfl rfl <| oI 2 X0 d16_1 rfl rfl <| oA 3 X0 d16_2 rfl rfl <| mV 6 2 X0 F0 (rm_au104 G F0 F1 F2 F3) (u7 G) all0 d16_3 rfl rfl rfl lr (by decide) all0 ?_
  rintro _ _ _ _ X1 rfl K1 _ _
  refine sk [.int 4, .int 1, .ref pa1] rfl ?_
  have f2 := F0.keep K1
  have f3 := F1.k0 K1
  have f4 := F2.k0 K1
  have f5 := F3.k0 K1
  refine mV 9 0 X1 f2 (rm_au111 G f2 f3 f4 f5) (u17 G) all0 d16_6 rfl rfl rfl lr (by decide) all0 ?_
  rintro _ _ _ _ X6 ⟨xa1_7, xa2_8, xk1_9, rfl, q10, q11, q12, q13, q14, q15, q16, _⟩ _ _ _
  refine sk [.ref xa1_7] rfl ?_
  exact oR X6 d16_9 rfl rfl rfl (by decide) (by decide) (fun _ CC => ⟨xa1_7, xa2_8, xk1_9, rfl, q10, q11, q12, (CC.safe (own_lt (by omega)) q13), q14, q15, (CC.safe (own_lt (by omega)) q16), by omega⟩)
theorem rm_au113 (G : GL l Z a0 zc fmt) (F0 : av1 Z h0 pa1 pk1 3 [.int pi1, .int pi2, .int pi3]) (nk_pi1_46 : ¬ pi1 = (46 : Int32)) (nk_pi2_46 : ¬ pi2 = (46 : Int32)) (nk_pi3_46 : ¬ pi3 = (46 : Int32)) : M13 l Z 1 0 0 13 #[.ref pa1, .int 46, .int 2] h0 n0 [] [] (Q9 Z  h0) := by
  refine mi B13 ef10 (hEW G) fun s X0 hsf0 n0le => ?_
  have := F0.l
  refine oI 1 X0 d13_0 rfl rfl <| mS 4 0 X0 (rm_au8 G (by decide) (by decide)) (u9 G) all0 d13_1 rfl rfl rfl lr (by decide) all0 ?_
  rintro _ _ _ _ X1 rfl K1 _ _
  refine sk [.int 1] rfl <| oy 9 X1 d13_4 (by decide) ((if0 _ _).trans (feq (by decide)).2) <| oI 10 X1 d13_9 rfl rfl <| oA 11 X1 d13_10 rfl rfl ?_
  have f2 := F0.k0 K1
  refine oL 12 X1 f2 d13_11 rfl <| oc 13 (v := 1) X1 d13_12 rfl (by decide) <| o_isub 14 (v := 2) X1 d13_13 rfl (by decide) <| mS 17 0 X1 (rm_au9 G (by decide)) (u10 G) all0 d13_14 rfl rfl rfl lr (by decide) all0 ?_
  rintro _ _ _ _ X3 rfl K3 _ _
  refine sk [.int 2] rfl <| oT 18 (l' := #[rr pa1, ii 46, ii 2, ii 2]) X3 d13_17 rfl rfl <| oI 19 X3 d13_18 rfl rfl <| on 22 X3 d13_19 rfl ((if0 _ _).trans (flt (by decide)).1) <| oA 23 X3 d13_22 rfl rfl <| oI 24 X3 d13_23 rfl rfl ?_
  have f4 := f2.k0 K3
  refine oB 25 (v := (.int pi3)) X3 f4 ⟨by decide, by decide⟩ rfl d13_24 rfl <| oI 26 X3 d13_25 rfl rfl <| o_i2b 27 (v := 46) X3 d13_26 rfl (by decide) <| oY 32 X3 d13_27 (by decide) (feq nk_pi3_46).2 <| oJ 35 1 #[rr pa1, ii 46, ii 2, ii 1] X3 d13_32 rfl rfl (by decide) rfl <| og 18 X3 d13_35 (by decide) <| oI 19 X3 d13_18 rfl rfl <| on 22 X3 d13_19 rfl ((if0 _ _).trans (flt (by decide)).1) <| oA 23 X3 d13_22 rfl rfl <| oI 24 X3 d13_23 rfl rfl <| oB 25 (v := (.int pi2)) X3 f4 ⟨by decide, by decide⟩ rfl d13_24 rfl <| oI 26 X3 d13_25 rfl rfl ?_
  refine o_i2b 27 (v := 46) X3 d13_26 rfl (by decide) <| oY 32 X3 d13_27 (by decide) (feq nk_pi2_46).2 <| oJ 35 0 #[rr pa1, ii 46, ii 2, ii 0] X3 d13_32 rfl rfl (by decide) rfl <| og 18 X3 d13_35 (by decide) <| oI 19 X3 d13_18 rfl rfl <| on 22 X3 d13_19 rfl ((if0 _ _).trans (flt (by decide)).1) <| oA 23 X3 d13_22 rfl rfl <| oI 24 X3 d13_23 rfl rfl <| oB 25 (v := (.int pi1)) X3 f4 ⟨by decide, by decide⟩ rfl d13_24 rfl <| oI 26 X3 d13_25 rfl rfl <| o_i2b 27 (v := 46) X3 d13_26 rfl (by decide) <| oY 32 X3 d13_27 (by decide) (feq nk_pi1_46).2 ?_
  refine oJ 35 (-1) #[rr pa1, ii 46, ii 2, ii (-1)] X3 d13_32 rfl rfl (by decide) rfl <| og 18 X3 d13_35 (by decide) <| oI 19 X3 d13_18 rfl rfl <| oy 38 X3 d13_19 (by decide) ((if0 _ _).trans (tlt (by decide)).1) <| oc 39 (v := (-1)) X3 d13_38 rfl (by decide) ?_
  exact o_iret X3 d13_39 rfl (by decide) (by decide) (fun _ CC => rfl)
theorem rm_au114 (G : GL l Z a0 zc fmt) (F0 : ex1 Z h0 pa1) (F1 : fd0 Z h0 pa1 (.int 0)) (F2 : fd1 Z h0 pa1 (.ref pa2)) (F3 : av1 Z h0 pa2 pk1 3 [.int pi1, .int pi2, .int pi3]) (nk_pi1_46 : ¬ pi1 = (46 : Int32)) (nk_pi2_46 : ¬ pi2 = (46 : Int32)) (nk_pi3_46 : ¬ pi3 = (46 : Int32)) : M11 l Z 2 0 0 28 #[.ref pa1, .int 46, .int 2] h0 n0 [] [] (Q9 Z  h0) := by
  refine mi B11 ef9 (hEW G) fun s X0 hsf0 n0le => ?_
  have := F0.l
  have := F3.l
  refine oA 1 X0 d11_0 rfl rfl <| mV 4 0 X0 F0 (rm_au7 G F1 (by decide)) (u8 G) all0 d11_1 rfl rfl rfl lr (by decide) all0 ?_
  rintro _ _ _ _ X1 rfl K1 _ _
  refine sk [.int 1] rfl <| on 7 X1 d11_4 rfl ((if0 _ _).trans (feq (by decide)).1) <| oA 8 X1 d11_7 rfl rfl ?_
  have f2 := F2.k0 K1
  refine oF 11 X1 (w33 G) Via.refl f2 d11_8 rfl ?_
  intro _ X4
  refine oI 12 X4 d11_11 rfl rfl <| oI 13 X4 d11_12 rfl rfl ?_
  have f5 := F3.k0 K1
  refine mS 16 0 X4 (rm_au113 G f5 nk_pi1_46 nk_pi2_46 nk_pi3_46) (u11 G) all0 d11_13 rfl rfl rfl lr (by decide) all0 ?_
  rintro _ _ _ _ X6 rfl _ _ _
  refine sk [.int (-1)] rfl <| og 28 X6 d11_16 (by decide) ?_
  exact o_iret X6 d11_28 rfl (by decide) (by decide) (fun _ CC => rfl)
theorem rm_au115 (G : GL l Z a0 zc fmt) (F0 : ex1 Z h0 pa1) (F1 : fd0 Z h0 pa1 (.int 0)) (F2 : fd1 Z h0 pa1 (.ref pa2)) (F3 : av1 Z h0 pa2 pk1 3 [.int pi1, .int pi2, .int pi3]) (nk_pi1_46 : ¬ pi1 = (46 : Int32)) (nk_pi2_46 : ¬ pi2 = (46 : Int32)) (nk_pi3_46 : ¬ pi3 = (46 : Int32)) : M8 l Z 3 0 0 42 #[.ref pa1, .int 46] h0 n0 [] [] (Q9 Z  h0) := by
  refine mi B8 ef6 (hEW G) fun s X0 hsf0 n0le => ?_
  have := F0.l
  have := F3.l
  refine oA 1 X0 d8_0 rfl rfl <| oI 2 X0 d8_1 rfl rfl <| oA 3 X0 d8_2 rfl rfl <| mV 6 2 X0 F0 (rm_au58 G F0 F1 F2 F3) (u7 G) all0 d8_3 rfl rfl rfl lr (by decide) all0 ?_
  rintro _ _ _ _ X1 rfl K1 _ _
  refine sk [.int 3, .int 46, .ref pa1] rfl <| oc 7 (v := 1) X1 d8_6 rfl (by decide) <| o_isub 8 (v := 2) X1 d8_7 rfl (by decide) ?_
  have f2 := F0.keep K1
  have f3 := F1.k0 K1
  have f4 := F2.k0 K1
  have f5 := F3.k0 K1
  refine mV 11 0 X1 f2 (rm_au114 G f2 f3 f4 f5 nk_pi1_46 nk_pi2_46 nk_pi3_46) (u12 G) all0 d8_8 rfl rfl rfl lr (by decide) all0 ?_
  rintro _ _ _ _ X6 rfl _ _ _
  refine sk [.int (-1)] rfl ?_
  exact o_iret X6 d8_11 rfl (by decide) (by decide) (fun _ CC => rfl)
theorem rm_au116 (G : GL l Z a0 zc fmt) (F0 : ex1 Z h0 pa1) (F1 : fd0 Z h0 pa1 (.int 0)) (F2 : fd1 Z h0 pa1 (.ref pa2)) (F3 : av1 Z h0 pa2 pk1 4 [.int pi100, .int pi1, .int pi2, .int pi3]) (nk_pi1_46 : ¬ pi1 = (46 : Int32)) (nk_pi1_47 : ¬ pi1 = (47 : Int32)) (nk_pi2_46 : ¬ pi2 = (46 : Int32)) (nk_pi2_47 : ¬ pi2 = (47 : Int32)) (nk_pi3_46 : ¬ pi3 = (46 : Int32)) (nk_pi3_47 : ¬ pi3 = (47 : Int32)) (pc_0 : pi100 = (47 : Int32)) : M7 l Z 6 2 7 115 #[.ref pa1] h0 n0 [] [] (Q10 Z  h0) := by
  refine mi B7 ef7 (hEW G) fun s X0 hsf0 n0le => ?_
  have := F0.l
  have := F3.l
  refine oA 1 X0 d7_0 rfl rfl <| oA 2 X0 d7_1 rfl rfl <| ob 4 (v := 47) X0 d7_2 rfl (by decide) <| mV 7 1 X0 F0 (rm_au107 G F0 F1 F2 F3 nk_pi1_47 nk_pi2_47 nk_pi3_47 pc_0) (u13 G) all0 d7_4 rfl rfl rfl lr (by decide) all0 ?_
  rintro _ _ _ _ X1 rfl K1 _ _
  refine sk [i0, .ref pa1] rfl <| oc 8 (v := 1) X1 d7_7 rfl (by decide) <| o_iadd 9 (v := 1) X1 d7_8 rfl (by decide) ?_
  have f2 := F0.keep K1
  have f3 := F1.k0 K1
  have f4 := F2.k0 K1
  have f5 := F3.k0 K1
  refine mV 12 0 X1 f2 (rm_au112 G f2 f3 f4 f5) (u18 G) all0 d7_9 rfl rfl rfl lr (by decide) all0 ?_
  rintro _ _ _ _ X6 ⟨xa1_7, _, _, rfl, q10, q11, q12, _, q14, _, _, _⟩ _ _ _
  refine sk [.ref xa1_7] rfl <| oV 13 (l' := #[rr pa1, rr xa1_7, uu]) X6 d7_12 rfl rfl rfl <| oA 14 X6 d7_13 rfl rfl <| ob 16 (v := 46) X6 d7_14 rfl (by decide) <| mV 19 0 X6 q10 (rm_au115 G q10 q11 q12 q14 nk_pi1_46 nk_pi2_46 nk_pi3_46) (u13 G) all0 d7_16 rfl rfl rfl lr (by decide) all0 ?_
  rintro _ _ _ _ X18 rfl _ _ _
  refine sk [.int (-1)] rfl <| oT 20 (l' := #[rr pa1, rr xa1_7, ii (-1)]) X18 d7_19 rfl rfl <| oI 21 X18 d7_20 rfl rfl <| on 24 X18 d7_21 rfl ((if0 _ _).trans (tlt (by decide)).2.1) <| o_aconstNull 25 X18 d7_24 rfl <| og 35 X18 d7_25 (by decide) ?_
  exact oR X18 d7_35 rfl rfl rfl (by decide) (by decide) (fun _ CC => rfl)
theorem rm_au117 (G : GL l Z a0 zc fmt) (F0 : av1 Z h0 pa1 pk1 3 [.int pi1, .int pi2, .int pi3]) (nk_pi2_46 : ¬ pi2 = (46 : Int32)) (nk_pi3_46 : ¬ pi3 = (46 : Int32)) (pc_0 : pi1 = (46 : Int32)) : M13 l Z 1 0 0 13 #[.ref pa1, .int 46, .int 2] h0 n0 [] [] (Q3 Z  h0) := by
  refine mi B13 ef10 (hEW G) fun s X0 hsf0 n0le => ?_
  have := F0.l
  refine oI 1 X0 d13_0 rfl rfl <| mS 4 0 X0 (rm_au8 G (by decide) (by decide)) (u9 G) all0 d13_1 rfl rfl rfl lr (by decide) all0 ?_
  rintro _ _ _ _ X1 rfl K1 _ _
  refine sk [.int 1] rfl <| oy 9 X1 d13_4 (by decide) ((if0 _ _).trans (feq (by decide)).2) <| oI 10 X1 d13_9 rfl rfl <| oA 11 X1 d13_10 rfl rfl ?_
  have f2 := F0.k0 K1
  refine oL 12 X1 f2 d13_11 rfl <| oc 13 (v := 1) X1 d13_12 rfl (by decide) <| o_isub 14 (v := 2) X1 d13_13 rfl (by decide) <| mS 17 0 X1 (rm_au9 G (by decide)) (u10 G) all0 d13_14 rfl rfl rfl lr (by decide) all0 ?_
  rintro _ _ _ _ X3 rfl K3 _ _
  refine sk [.int 2] rfl <| oT 18 (l' := #[rr pa1, ii 46, ii 2, ii 2]) X3 d13_17 rfl rfl <| oI 19 X3 d13_18 rfl rfl <| on 22 X3 d13_19 rfl ((if0 _ _).trans (flt (by decide)).1) <| oA 23 X3 d13_22 rfl rfl <| oI 24 X3 d13_23 rfl rfl ?_
  have f4 := f2.k0 K3
  refine oB 25 (v := (.int pi3)) X3 f4 ⟨by decide, by decide⟩ rfl d13_24 rfl <| oI 26 X3 d13_25 rfl rfl <| o_i2b 27 (v := 46) X3 d13_26 rfl (by decide) <| oY 32 X3 d13_27 (by decide) (feq nk_pi3_46).2 <| oJ 35 1 #[rr pa1, ii 46, ii 2, ii 1] X3 d13_32 rfl rfl (by decide) rfl <| og 18 X3 d13_35 (by decide) <| oI 19 X3 d13_18 rfl rfl <| on 22 X3 d13_19 rfl ((if0 _ _).trans (flt (by decide)).1) <| oA 23 X3 d13_22 rfl rfl <| oI 24 X3 d13_23 rfl rfl <| oB 25 (v := (.int pi2)) X3 f4 ⟨by decide, by decide⟩ rfl d13_24 rfl <| oI 26 X3 d13_25 rfl rfl ?_
  refine o_i2b 27 (v := 46) X3 d13_26 rfl (by decide) <| oY 32 X3 d13_27 (by decide) (feq nk_pi2_46).2 <| oJ 35 0 #[rr pa1, ii 46, ii 2, ii 0] X3 d13_32 rfl rfl (by decide) rfl <| og 18 X3 d13_35 (by decide) <| oI 19 X3 d13_18 rfl rfl <| on 22 X3 d13_19 rfl ((if0 _ _).trans (flt (by decide)).1) <| oA 23 X3 d13_22 rfl rfl <| oI 24 X3 d13_23 rfl rfl <| oB 25 (v := (.int pi1)) X3 f4 ⟨by decide, by decide⟩ rfl d13_24 rfl <| oI 26 X3 d13_25 rfl rfl <| o_i2b 27 (v := 46) X3 d13_26 rfl (by decide) <| oN 30 X3 d13_27 rfl (teq pc_0).2 ?_
  refine oI 31 X3 d13_30 rfl rfl ?_
  exact o_iret X3 d13_31 rfl (by decide) (by decide) (fun _ CC => rfl)
theorem rm_au118 (G : GL l Z a0 zc fmt) (F0 : ex1 Z h0 pa1) (F1 : fd0 Z h0 pa1 (.int 0)) (F2 : fd1 Z h0 pa1 (.ref pa2)) (F3 : av1 Z h0 pa2 pk1 3 [.int pi1, .int pi2, .int pi3]) (nk_pi2_46 : ¬ pi2 = (46 : Int32)) (nk_pi3_46 : ¬ pi3 = (46 : Int32)) (pc_0 : pi1 = (46 : Int32)) : M11 l Z 2 0 0 28 #[.ref pa1, .int 46, .int 2] h0 n0 [] [] (Q3 Z  h0) := by
  refine mi B11 ef9 (hEW G) fun s X0 hsf0 n0le => ?_
  have := F0.l
  have := F3.l
  refine oA 1 X0 d11_0 rfl rfl <| mV 4 0 X0 F0 (rm_au7 G F1 (by decide)) (u8 G) all0 d11_1 rfl rfl rfl lr (by decide) all0 ?_
  rintro _ _ _ _ X1 rfl K1 _ _
  refine sk [.int 1] rfl <| on 7 X1 d11_4 rfl ((if0 _ _).trans (feq (by decide)).1) <| oA 8 X1 d11_7 rfl rfl ?_
  have f2 := F2.k0 K1
  refine oF 11 X1 (w33 G) Via.refl f2 d11_8 rfl ?_
  intro _ X4
  refine oI 12 X4 d11_11 rfl rfl <| oI 13 X4 d11_12 rfl rfl ?_
  have f5 := F3.k0 K1
  refine mS 16 0 X4 (rm_au117 G f5 nk_pi2_46 nk_pi3_46 pc_0) (u11 G) all0 d11_13 rfl rfl rfl lr (by decide) all0 ?_
  rintro _ _ _ _ X6 rfl _ _ _
  refine sk [i0] rfl <| og 28 X6 d11_16 (by decide) ?_
  exact o_iret X6 d11_28 rfl (by decide) (by decide) (fun _ CC => rfl)
theorem rm_au119 (G : GL l Z a0 zc fmt) (F0 : ex1 Z h0 pa1) (F1 : fd0 Z h0 pa1 (.int 0)) (F2 : fd1 Z h0 pa1 (.ref pa2)) (F3 : av1 Z h0 pa2 pk1 3 [.int pi1, .int pi2, .int pi3]) (nk_pi2_46 : ¬ pi2 = (46 : Int32)) (nk_pi3_46 : ¬ pi3 = (46 : Int32)) (pc_0 : pi1 = (46 : Int32)) : M8 l Z 3 0 0 42 #[.ref pa1, .int 46] h0 n0 [] [] (Q3 Z  h0) := by
  refine mi B8 ef6 (hEW G) fun s X0 hsf0 n0le => ?_
  have := F0.l
  have := F3.l
  refine oA 1 X0 d8_0 rfl rfl <| oI 2 X0 d8_1 rfl rfl <| oA 3 X0 d8_2 rfl rfl <| mV 6 2 X0 F0 (rm_au58 G F0 F1 F2 F3) (u7 G) all0 d8_3 rfl rfl rfl lr (by decide) all0 ?_
  rintro _ _ _ _ X1 rfl K1 _ _
  refine sk [.int 3, .int 46, .ref pa1] rfl <| oc 7 (v := 1) X1 d8_6 rfl (by decide) <| o_isub 8 (v := 2) X1 d8_7 rfl (by decide) ?_
  have f2 := F0.keep K1
  have f3 := F1.k0 K1
  have f4 := F2.k0 K1
  have f5 := F3.k0 K1
  refine mV 11 0 X1 f2 (rm_au118 G f2 f3 f4 f5 nk_pi2_46 nk_pi3_46 pc_0) (u12 G) all0 d8_8 rfl rfl rfl lr (by decide) all0 ?_
  rintro _ _ _ _ X6 rfl _ _ _
  refine sk [i0] rfl ?_
  exact o_iret X6 d8_11 rfl (by decide) (by decide) (fun _ CC => rfl)
theorem rm_au120 (G : GL l Z a0 zc fmt) (F0 : ex1 Z h0 pa1) (F1 : fd0 Z h0 pa1 (.int 0)) (F2 : fd1 Z h0 pa1 (.ref pa2)) (F3 : av1 Z h0 pa2 pk1 4 [.int pi100, .int pi101, .int pi1, .int pi2]) (nk_pi1_46 : ¬ pi1 = (46 : Int32)) (nk_pi1_47 : ¬ pi1 = (47 : Int32)) (nk_pi2_46 : ¬ pi2 = (46 : Int32)) (nk_pi2_47 : ¬ pi2 = (47 : Int32)) (pc_0 : ¬ pi101 = (47 : Int32)) (pc_1 : pi100 = (47 : Int32)) (pc_2 : pi101 = (46 : Int32)) : M7 l Z 6 4 13 115 #[.ref pa1] h0 n0 [] [] (Q23 Z pi1 pi2 h0) := by
  refine mi B7 ef7 (hEW G) fun s X0 hsf0 n0le => ?_
  have := F0.l
  have := F3.l
  refine oA 1 X0 d7_0 rfl rfl <| oA 2 X0 d7_1 rfl rfl <| ob 4 (v := 47) X0 d7_2 rfl (by decide) <| mV 7 1 X0 F0 (rm_au107 G F0 F1 F2 F3 pc_0 nk_pi1_47 nk_pi2_47 pc_1) (u13 G) all0 d7_4 rfl rfl rfl lr (by decide) all0 ?_
  rintro _ _ _ _ X1 rfl K1 _ _
  refine sk [i0, .ref pa1] rfl <| oc 8 (v := 1) X1 d7_7 rfl (by decide) <| o_iadd 9 (v := 1) X1 d7_8 rfl (by decide) ?_
  have f2 := F0.keep K1
  have f3 := F1.k0 K1
  have f4 := F2.k0 K1
  have f5 := F3.k0 K1
  refine mV 12 0 X1 f2 (rm_au112 G f2 f3 f4 f5) (u18 G) all0 d7_9 rfl rfl rfl lr (by decide) all0 ?_
  rintro _ _ _ _ X6 ⟨xa1_7, _, _, rfl, q10, q11, q12, _, q14, _, _, _⟩ _ _ _
  refine sk [.ref xa1_7] rfl <| oV 13 (l' := #[rr pa1, rr xa1_7, uu]) X6 d7_12 rfl rfl rfl <| oA 14 X6 d7_13 rfl rfl <| ob 16 (v := 46) X6 d7_14 rfl (by decide) <| mV 19 0 X6 q10 (rm_au119 G q10 q11 q12 q14 nk_pi1_46 nk_pi2_46 pc_2) (u13 G) all0 d7_16 rfl rfl rfl lr (by decide) all0 ?_
  rintro _ _ _ _ X18 rfl K18 _ _
  refine sk [i0] rfl <| oT 20 (l' := #[rr pa1, rr xa1_7, ii 0]) X18 d7_19 rfl rfl <| oI 21 X18 d7_20 rfl rfl <| oy 28 X18 d7_21 (by decide) ((if0 _ _).trans (flt (by decide)).2.1) <| oA 29 X18 d7_28 rfl rfl <| oI 30 X18 d7_29 rfl rfl <| oc 31 (v := 1) X18 d7_30 rfl (by decide) <| o_iadd 32 (v := 1) X18 d7_31 rfl (by decide) ?_
  have f19 := q10.keep K18
  have f20 := q11.k0 K18
  have f21 := q12.k0 K18
  have f22 := q14.k0 K18
  refine mV 35 0 X18 f19 (rm_au66 G f19 f20 f21 f22) (u18 G) all0 d7_32 rfl rfl rfl lr (by decide) all0 ?_
  rintro _ _ _ _ X23 ⟨xa1_24, xa2_25, xk1_26, rfl, q27, q28, q29, q30, q31, q32, q33, _⟩ _ _ _
  refine sk [.ref xa1_24] rfl ?_
  exact oR X23 d7_35 rfl rfl rfl (by decide) (by decide) (fun _ CC => ⟨xa1_24, xa2_25, xk1_26, rfl, q27, q28, q29, (CC.safe (own_lt (by omega)) q30), q31, q32, (CC.safe (own_lt (by omega)) q33), by omega⟩)
theorem rm_au121 (G : GL l Z a0 zc fmt) (F0 : av1 Z h0 pa1 pk1 2 [.int pi1, .int pi2]) : M26 l Z 2 0 0 27 #[.ref pa1, i0] h0 n0 [] [] (Q24 Z pi1 h0) := by
  refine mi B26 ef6 (hEW G) fun s X0 hsf0 n0le => ?_
  have := F0.l
  refine oI 1 X0 d26_0 rfl rfl <| oA 2 X0 d26_1 rfl rfl <| oL 3 X0 F0 d26_2 rfl <| mS 6 0 X0 (rm_au76 G (by decide) (by decide)) (u27 G) all0 d26_3 rfl rfl rfl lr (by decide) all0 ?_
  rintro _ _ _ _ X1 rfl K1 _ _
  refine sk [] rfl <| oA 7 X1 d26_6 rfl rfl <| oI 8 X1 d26_7 rfl rfl ?_
  have f2 := F0.k0 K1
  refine oB 9 (v := (.int pi1)) X1 f2 ⟨by decide, by decide⟩ rfl d26_8 rfl <| o_sipush 12 (v := 255) X1 d26_9 rfl (by decide) <| o_iand 13 (v := (pi1 &&& (255 : Int32))) X1 d26_12 rfl rfl <| o_i2c 14 (v := ((pi1 &&& (255 : Int32)).toUInt32.toUInt16.toUInt32.toInt32)) X1 d26_13 rfl rfl ?_
  exact o_nret (y := ((pi1 &&& (255 : Int32)).toUInt32.toUInt16.toUInt32.toInt32)) (t := .char) X1 d26_14 rfl (own_nc2 rfl) (by simp) (by decide) (by decide) (fun _ CC => rfl)
theorem rm_au122 (G : GL l Z a0 zc fmt) (F0 : ex1 Z h0 pa1) (F1 : fd0 Z h0 pa1 (.int 0)) (F2 : fd1 Z h0 pa1 (.ref pa2)) (F3 : av1 Z h0 pa2 pk1 2 [.int pi1, .int pi2]) : M25 l Z 3 0 0 40 #[.ref pa1, i0] h0 n0 [] [] (Q24 Z pi1 h0) := by
  refine mi B25 ef6 (hEW G) fun s X0 hsf0 n0le => ?_
  have := F0.l
  have := F3.l
  refine oA 1 X0 d25_0 rfl rfl <| mV 4 0 X0 F0 (rm_au7 G F1 (by decide)) (u8 G) all0 d25_1 rfl rfl rfl lr (by decide) all0 ?_
  rintro _ _ _ _ X1 rfl K1 _ _
  refine sk [.int 1] rfl <| on 7 X1 d25_4 rfl ((if0 _ _).trans (feq (by decide)).1) <| oA 8 X1 d25_7 rfl rfl ?_
  have f2 := F2.k0 K1
  refine oF 11 X1 (w33 G) Via.refl f2 d25_8 rfl ?_
  intro _ X4
  refine oI 12 X4 d25_11 rfl rfl ?_
  have f5 := F3.k0 K1
  refine mS 15 0 X4 (rm_au121 G f5) (u28 G) all0 d25_12 rfl rfl rfl lr (by decide) all0 ?_
  rintro _ _ _ _ X6 rfl _ _ _
  refine sk [.int ((pi1 &&& (255 : Int32)).toUInt32.toUInt16.toUInt32.toInt32)] rfl ?_
  exact o_nret (y := ((pi1 &&& (255 : Int32)).toUInt32.toUInt16.toUInt32.toInt32)) (t := .char) X6 d25_15 rfl (own_nc2 rfl) (by simp) (by decide) (by decide) (fun _ CC => rfl)
theorem rm_au123 (G : GL l Z a0 zc fmt) (F0 : av1 Z h0 pa1 pk1 2 [.int pi1, .int pi2]) : M26 l Z 2 0 0 27 #[.ref pa1, .int 1] h0 n0 [] [] (Q24 Z pi2 h0) := by
  refine mi B26 ef6 (hEW G) fun s X0 hsf0 n0le => ?_
  have := F0.l
  refine oI 1 X0 d26_0 rfl rfl <| oA 2 X0 d26_1 rfl rfl <| oL 3 X0 F0 d26_2 rfl <| mS 6 0 X0 (rm_au76 G (by decide) (by decide)) (u27 G) all0 d26_3 rfl rfl rfl lr (by decide) all0 ?_
  rintro _ _ _ _ X1 rfl K1 _ _
  refine sk [] rfl <| oA 7 X1 d26_6 rfl rfl <| oI 8 X1 d26_7 rfl rfl ?_
  have f2 := F0.k0 K1
  refine oB 9 (v := (.int pi2)) X1 f2 ⟨by decide, by decide⟩ rfl d26_8 rfl <| o_sipush 12 (v := 255) X1 d26_9 rfl (by decide) <| o_iand 13 (v := (pi2 &&& (255 : Int32))) X1 d26_12 rfl rfl <| o_i2c 14 (v := ((pi2 &&& (255 : Int32)).toUInt32.toUInt16.toUInt32.toInt32)) X1 d26_13 rfl rfl ?_
  exact o_nret (y := ((pi2 &&& (255 : Int32)).toUInt32.toUInt16.toUInt32.toInt32)) (t := .char) X1 d26_14 rfl (own_nc2 rfl) (by simp) (by decide) (by decide) (fun _ CC => rfl)
theorem rm_au124 (G : GL l Z a0 zc fmt) (F0 : ex1 Z h0 pa1) (F1 : fd0 Z h0 pa1 (.int 0)) (F2 : fd1 Z h0 pa1 (.ref pa2)) (F3 : av1 Z h0 pa2 pk1 2 [.int pi1, .int pi2]) : M25 l Z 3 0 0 40 #[.ref pa1, .int 1] h0 n0 [] [] (Q24 Z pi2 h0) := by
  refine mi B25 ef6 (hEW G) fun s X0 hsf0 n0le => ?_
  have := F0.l
  have := F3.l
  refine oA 1 X0 d25_0 rfl rfl <| mV 4 0 X0 F0 (rm_au7 G F1 (by decide)) (u8 G) all0 d25_1 rfl rfl rfl lr (by decide) all0 ?_
  rintro _ _ _ _ X1 rfl K1 _ _
  refine sk [.int 1] rfl <| on 7 X1 d25_4 rfl ((if0 _ _).trans (feq (by decide)).1) <| oA 8 X1 d25_7 rfl rfl ?_
  have f2 := F2.k0 K1
  refine oF 11 X1 (w33 G) Via.refl f2 d25_8 rfl ?_
  intro _ X4
  refine oI 12 X4 d25_11 rfl rfl ?_
  have f5 := F3.k0 K1
  refine mS 15 0 X4 (rm_au123 G f5) (u28 G) all0 d25_12 rfl rfl rfl lr (by decide) all0 ?_
  rintro _ _ _ _ X6 rfl _ _ _
  refine sk [.int ((pi2 &&& (255 : Int32)).toUInt32.toUInt16.toUInt32.toInt32)] rfl ?_
  exact o_nret (y := ((pi2 &&& (255 : Int32)).toUInt32.toUInt16.toUInt32.toInt32)) (t := .char) X6 d25_15 rfl (own_nc2 rfl) (by simp) (by decide) (by decide) (fun _ CC => rfl)
theorem rm_au125 (G : GL l Z a0 zc fmt) (F0 : av1 Z h0 pa1 pk1 3 [.int pi1, .int pi2, .int pi3]) (nk_pi3_46 : ¬ pi3 = (46 : Int32)) (pc_0 : pi2 = (46 : Int32)) : M13 l Z 1 0 0 13 #[.ref pa1, .int 46, .int 2] h0 n0 [] [] (Q5 Z  h0) := by
  refine mi B13 ef10 (hEW G) fun s X0 hsf0 n0le => ?_
  have := F0.l
  refine oI 1 X0 d13_0 rfl rfl <| mS 4 0 X0 (rm_au8 G (by decide) (by decide)) (u9 G) all0 d13_1 rfl rfl rfl lr (by decide) all0 ?_
  rintro _ _ _ _ X1 rfl K1 _ _
  refine sk [.int 1] rfl <| oy 9 X1 d13_4 (by decide) ((if0 _ _).trans (feq (by decide)).2) <| oI 10 X1 d13_9 rfl rfl <| oA 11 X1 d13_10 rfl rfl ?_
  have f2 := F0.k0 K1
  refine oL 12 X1 f2 d13_11 rfl <| oc 13 (v := 1) X1 d13_12 rfl (by decide) <| o_isub 14 (v := 2) X1 d13_13 rfl (by decide) <| mS 17 0 X1 (rm_au9 G (by decide)) (u10 G) all0 d13_14 rfl rfl rfl lr (by decide) all0 ?_
  rintro _ _ _ _ X3 rfl K3 _ _
  refine sk [.int 2] rfl <| oT 18 (l' := #[rr pa1, ii 46, ii 2, ii 2]) X3 d13_17 rfl rfl <| oI 19 X3 d13_18 rfl rfl <| on 22 X3 d13_19 rfl ((if0 _ _).trans (flt (by decide)).1) <| oA 23 X3 d13_22 rfl rfl <| oI 24 X3 d13_23 rfl rfl ?_
  have f4 := f2.k0 K3
  refine oB 25 (v := (.int pi3)) X3 f4 ⟨by decide, by decide⟩ rfl d13_24 rfl <| oI 26 X3 d13_25 rfl rfl <| o_i2b 27 (v := 46) X3 d13_26 rfl (by decide) <| oY 32 X3 d13_27 (by decide) (feq nk_pi3_46).2 <| oJ 35 1 #[rr pa1, ii 46, ii 2, ii 1] X3 d13_32 rfl rfl (by decide) rfl <| og 18 X3 d13_35 (by decide) <| oI 19 X3 d13_18 rfl rfl <| on 22 X3 d13_19 rfl ((if0 _ _).trans (flt (by decide)).1) <| oA 23 X3 d13_22 rfl rfl <| oI 24 X3 d13_23 rfl rfl <| oB 25 (v := (.int pi2)) X3 f4 ⟨by decide, by decide⟩ rfl d13_24 rfl <| oI 26 X3 d13_25 rfl rfl ?_
  refine o_i2b 27 (v := 46) X3 d13_26 rfl (by decide) <| oN 30 X3 d13_27 rfl (teq pc_0).2 <| oI 31 X3 d13_30 rfl rfl ?_
  exact o_iret X3 d13_31 rfl (by decide) (by decide) (fun _ CC => rfl)
theorem rm_au126 (G : GL l Z a0 zc fmt) (F0 : ex1 Z h0 pa1) (F1 : fd0 Z h0 pa1 (.int 0)) (F2 : fd1 Z h0 pa1 (.ref pa2)) (F3 : av1 Z h0 pa2 pk1 3 [.int pi1, .int pi2, .int pi3]) (nk_pi3_46 : ¬ pi3 = (46 : Int32)) (pc_0 : pi2 = (46 : Int32)) : M11 l Z 2 0 0 28 #[.ref pa1, .int 46, .int 2] h0 n0 [] [] (Q5 Z  h0) := by
  refine mi B11 ef9 (hEW G) fun s X0 hsf0 n0le => ?_
  have := F0.l
  have := F3.l
  refine oA 1 X0 d11_0 rfl rfl <| mV 4 0 X0 F0 (rm_au7 G F1 (by decide)) (u8 G) all0 d11_1 rfl rfl rfl lr (by decide) all0 ?_
  rintro _ _ _ _ X1 rfl K1 _ _
  refine sk [.int 1] rfl <| on 7 X1 d11_4 rfl ((if0 _ _).trans (feq (by decide)).1) <| oA 8 X1 d11_7 rfl rfl ?_
  have f2 := F2.k0 K1
  refine oF 11 X1 (w33 G) Via.refl f2 d11_8 rfl ?_
  intro _ X4
  refine oI 12 X4 d11_11 rfl rfl <| oI 13 X4 d11_12 rfl rfl ?_
  have f5 := F3.k0 K1
  refine mS 16 0 X4 (rm_au125 G f5 nk_pi3_46 pc_0) (u11 G) all0 d11_13 rfl rfl rfl lr (by decide) all0 ?_
  rintro _ _ _ _ X6 rfl _ _ _
  refine sk [.int 1] rfl <| og 28 X6 d11_16 (by decide) ?_
  exact o_iret X6 d11_28 rfl (by decide) (by decide) (fun _ CC => rfl)
theorem rm_au127 (G : GL l Z a0 zc fmt) (F0 : ex1 Z h0 pa1) (F1 : fd0 Z h0 pa1 (.int 0)) (F2 : fd1 Z h0 pa1 (.ref pa2)) (F3 : av1 Z h0 pa2 pk1 3 [.int pi1, .int pi2, .int pi3]) (nk_pi3_46 : ¬ pi3 = (46 : Int32)) (pc_0 : pi2 = (46 : Int32)) : M8 l Z 3 0 0 42 #[.ref pa1, .int 46] h0 n0 [] [] (Q5 Z  h0) := by
  refine mi B8 ef6 (hEW G) fun s X0 hsf0 n0le => ?_
  have := F0.l
  have := F3.l
  refine oA 1 X0 d8_0 rfl rfl <| oI 2 X0 d8_1 rfl rfl <| oA 3 X0 d8_2 rfl rfl <| mV 6 2 X0 F0 (rm_au58 G F0 F1 F2 F3) (u7 G) all0 d8_3 rfl rfl rfl lr (by decide) all0 ?_
  rintro _ _ _ _ X1 rfl K1 _ _
  refine sk [.int 3, .int 46, .ref pa1] rfl <| oc 7 (v := 1) X1 d8_6 rfl (by decide) <| o_isub 8 (v := 2) X1 d8_7 rfl (by decide) ?_
  have f2 := F0.keep K1
  have f3 := F1.k0 K1
  have f4 := F2.k0 K1
  have f5 := F3.k0 K1
  refine mV 11 0 X1 f2 (rm_au126 G f2 f3 f4 f5 nk_pi3_46 pc_0) (u12 G) all0 d8_8 rfl rfl rfl lr (by decide) all0 ?_
  rintro _ _ _ _ X6 rfl _ _ _
  refine sk [.int 1] rfl ?_
  exact o_iret X6 d8_11 rfl (by decide) (by decide) (fun _ CC => rfl)
theorem rm_au128 (G : GL l Z a0 zc fmt) (F0 : ex1 Z h0 pa1) (F1 : fd0 Z h0 pa1 (.int 0)) (F2 : fd1 Z h0 pa1 (.ref pa2)) (F3 : av1 Z h0 pa2 pk1 4 [.int pi100, .int pi1, .int pi101, .int pi2]) (nk_pi1_47 : ¬ pi1 = (47 : Int32)) (nk_pi2_46 : ¬ pi2 = (46 : Int32)) (nk_pi2_47 : ¬ pi2 = (47 : Int32)) (pc_0 : ¬ pi101 = (47 : Int32)) (pc_1 : pi100 = (47 : Int32)) (pc_2 : pi101 = (46 : Int32)) : M7 l Z 6 4 12 115 #[.ref pa1] h0 n0 [] [] (Q17 Z pi2 h0) := by
  refine mi B7 ef7 (hEW G) fun s X0 hsf0 n0le => ?_
  have := F0.l
  have := F3.l
  refine oA 1 X0 d7_0 rfl rfl <| oA 2 X0 d7_1 rfl rfl <| ob 4 (v := 47) X0 d7_2 rfl (by decide) <| mV 7 1 X0 F0 (rm_au107 G F0 F1 F2 F3 nk_pi1_47 pc_0 nk_pi2_47 pc_1) (u13 G) all0 d7_4 rfl rfl rfl lr (by decide) all0 ?_
  rintro _ _ _ _ X1 rfl K1 _ _
  refine sk [i0, .ref pa1] rfl <| oc 8 (v := 1) X1 d7_7 rfl (by decide) <| o_iadd 9 (v := 1) X1 d7_8 rfl (by decide) ?_
  have f2 := F0.keep K1
  have f3 := F1.k0 K1
  have f4 := F2.k0 K1
  have f5 := F3.k0 K1
  refine mV 12 0 X1 f2 (rm_au112 G f2 f3 f4 f5) (u18 G) all0 d7_9 rfl rfl rfl lr (by decide) all0 ?_
  rintro _ _ _ _ X6 ⟨xa1_7, _, _, rfl, q10, q11, q12, _, q14, _, _, _⟩ _ _ _
  refine sk [.ref xa1_7] rfl <| oV 13 (l' := #[rr pa1, rr xa1_7, uu]) X6 d7_12 rfl rfl rfl <| oA 14 X6 d7_13 rfl rfl <| ob 16 (v := 46) X6 d7_14 rfl (by decide) <| mV 19 0 X6 q10 (rm_au127 G q10 q11 q12 q14 nk_pi2_46 pc_2) (u13 G) all0 d7_16 rfl rfl rfl lr (by decide) all0 ?_
  rintro _ _ _ _ X18 rfl K18 _ _
  refine sk [.int 1] rfl <| oT 20 (l' := #[rr pa1, rr xa1_7, ii 1]) X18 d7_19 rfl rfl <| oI 21 X18 d7_20 rfl rfl <| oy 28 X18 d7_21 (by decide) ((if0 _ _).trans (flt (by decide)).2.1) <| oA 29 X18 d7_28 rfl rfl <| oI 30 X18 d7_29 rfl rfl <| oc 31 (v := 1) X18 d7_30 rfl (by decide) <| o_iadd 32 (v := 2) X18 d7_31 rfl (by decide) ?_
  have f19 := q10.keep K18
  have f20 := q11.k0 K18
  have f21 := q12.k0 K18
  have f22 := q14.k0 K18
  refine mV 35 0 X18 f19 (rm_au90 G f19 f20 f21 f22) (u18 G) all0 d7_32 rfl rfl rfl lr (by decide) all0 ?_
  rintro _ _ _ _ X23 ⟨xa1_24, xa2_25, xk1_26, rfl, q27, q28, q29, q30, q31, q32, q33, _⟩ _ _ _
  refine sk [.ref xa1_24] rfl ?_
  exact oR X23 d7_35 rfl rfl rfl (by decide) (by decide) (fun _ CC => ⟨xa1_24, xa2_25, xk1_26, rfl, q27, q28, q29, (CC.safe (own_lt (by omega)) q30), q31, q32, (CC.safe (own_lt (by omega)) q33), by omega⟩)
theorem rm_au129 (G : GL l Z a0 zc fmt) (F0 : av1 Z h0 pa1 pk1 3 [.int pi1, .int pi2, .int pi3]) (pc_0 : pi3 = (46 : Int32)) : M13 l Z 1 0 0 13 #[.ref pa1, .int 46, .int 2] h0 n0 [] [] (Q14 Z  h0) := by
  refine mi B13 ef10 (hEW G) fun s X0 hsf0 n0le => ?_
  have := F0.l
  refine oI 1 X0 d13_0 rfl rfl <| mS 4 0 X0 (rm_au8 G (by decide) (by decide)) (u9 G) all0 d13_1 rfl rfl rfl lr (by decide) all0 ?_
  rintro _ _ _ _ X1 rfl K1 _ _
  refine sk [.int 1] rfl <| oy 9 X1 d13_4 (by decide) ((if0 _ _).trans (feq (by decide)).2) <| oI 10 X1 d13_9 rfl rfl <| oA 11 X1 d13_10 rfl rfl ?_
  have f2 := F0.k0 K1
  refine oL 12 X1 f2 d13_11 rfl <| oc 13 (v := 1) X1 d13_12 rfl (by decide) <| o_isub 14 (v := 2) X1 d13_13 rfl (by decide) <| mS 17 0 X1 (rm_au9 G (by decide)) (u10 G) all0 d13_14 rfl rfl rfl lr (by decide) all0 ?_
  rintro _ _ _ _ X3 rfl K3 _ _
  refine sk [.int 2] rfl <| oT 18 (l' := #[rr pa1, ii 46, ii 2, ii 2]) X3 d13_17 rfl rfl <| oI 19 X3 d13_18 rfl rfl <| on 22 X3 d13_19 rfl ((if0 _ _).trans (flt (by decide)).1) <| oA 23 X3 d13_22 rfl rfl <| oI 24 X3 d13_23 rfl rfl ?_
  have f4 := f2.k0 K3
  refine oB 25 (v := (.int pi3)) X3 f4 ⟨by decide, by decide⟩ rfl d13_24 rfl <| oI 26 X3 d13_25 rfl rfl <| o_i2b 27 (v := 46) X3 d13_26 rfl (by decide) <| oN 30 X3 d13_27 rfl (teq pc_0).2 <| oI 31 X3 d13_30 rfl rfl ?_
  exact o_iret X3 d13_31 rfl (by decide) (by decide) (fun _ CC => rfl)
theorem rm_au130 (G : GL l Z a0 zc fmt) (F0 : ex1 Z h0 pa1) (F1 : fd0 Z h0 pa1 (.int 0)) (F2 : fd1 Z h0 pa1 (.ref pa2)) (F3 : av1 Z h0 pa2 pk1 3 [.int pi1, .int pi2, .int pi3]) (pc_0 : pi3 = (46 : Int32)) : M11 l Z 2 0 0 28 #[.ref pa1, .int 46, .int 2] h0 n0 [] [] (Q14 Z  h0) := by
  refine mi B11 ef9 (hEW G) fun s X0 hsf0 n0le => ?_
  have := F0.l
  have := F3.l
  refine oA 1 X0 d11_0 rfl rfl <| mV 4 0 X0 F0 (rm_au7 G F1 (by decide)) (u8 G) all0 d11_1 rfl rfl rfl lr (by decide) all0 ?_
  rintro _ _ _ _ X1 rfl K1 _ _
  refine sk [.int 1] rfl <| on 7 X1 d11_4 rfl ((if0 _ _).trans (feq (by decide)).1) <| oA 8 X1 d11_7 rfl rfl ?_
  have f2 := F2.k0 K1
  refine oF 11 X1 (w33 G) Via.refl f2 d11_8 rfl ?_
  intro _ X4
  refine oI 12 X4 d11_11 rfl rfl <| oI 13 X4 d11_12 rfl rfl ?_
  have f5 := F3.k0 K1
  refine mS 16 0 X4 (rm_au129 G f5 pc_0) (u11 G) all0 d11_13 rfl rfl rfl lr (by decide) all0 ?_
  rintro _ _ _ _ X6 rfl _ _ _
  refine sk [.int 2] rfl <| og 28 X6 d11_16 (by decide) ?_
  exact o_iret X6 d11_28 rfl (by decide) (by decide) (fun _ CC => rfl)
theorem rm_au131 (G : GL l Z a0 zc fmt) (F0 : ex1 Z h0 pa1) (F1 : fd0 Z h0 pa1 (.int 0)) (F2 : fd1 Z h0 pa1 (.ref pa2)) (F3 : av1 Z h0 pa2 pk1 3 [.int pi1, .int pi2, .int pi3]) (pc_0 : pi3 = (46 : Int32)) : M8 l Z 3 0 0 42 #[.ref pa1, .int 46] h0 n0 [] [] (Q14 Z  h0) := by
  refine mi B8 ef6 (hEW G) fun s X0 hsf0 n0le => ?_
  have := F0.l
  have := F3.l
  refine oA 1 X0 d8_0 rfl rfl <| oI 2 X0 d8_1 rfl rfl <| oA 3 X0 d8_2 rfl rfl <| mV 6 2 X0 F0 (rm_au58 G F0 F1 F2 F3) (u7 G) all0 d8_3 rfl rfl rfl lr (by decide) all0 ?_
  rintro _ _ _ _ X1 rfl K1 _ _
  refine sk [.int 3, .int 46, .ref pa1] rfl <| oc 7 (v := 1) X1 d8_6 rfl (by decide) <| o_isub 8 (v := 2) X1 d8_7 rfl (by decide) ?_
  have f2 := F0.keep K1
  have f3 := F1.k0 K1
  have f4 := F2.k0 K1
  have f5 := F3.k0 K1
  refine mV 11 0 X1 f2 (rm_au130 G f2 f3 f4 f5 pc_0) (u12 G) all0 d8_8 rfl rfl rfl lr (by decide) all0 ?_
  rintro _ _ _ _ X6 rfl _ _ _
  refine sk [.int 2] rfl ?_
  exact o_iret X6 d8_11 rfl (by decide) (by decide) (fun _ CC => rfl)
theorem rm_au132 (G : GL l Z a0 zc fmt) (F0 : ex1 Z h0 pa1) (F1 : fd0 Z h0 pa1 (.int 0)) (F2 : fd1 Z h0 pa1 (.ref pa2)) (F3 : av1 Z h0 pa2 pk1 4 [.int pi100, .int pi1, .int pi2, .int pi101]) (nk_pi1_47 : ¬ pi1 = (47 : Int32)) (nk_pi2_47 : ¬ pi2 = (47 : Int32)) (pc_0 : ¬ pi101 = (47 : Int32)) (pc_1 : pi100 = (47 : Int32)) (pc_2 : pi101 = (46 : Int32)) : M7 l Z 6 4 11 115 #[.ref pa1] h0 n0 [] [] (Q8 Z  h0) := by
  refine mi B7 ef7 (hEW G) fun s X0 hsf0 n0le => ?_
  have := F0.l
  have := F3.l
  refine oA 1 X0 d7_0 rfl rfl <| oA 2 X0 d7_1 rfl rfl <| ob 4 (v := 47) X0 d7_2 rfl (by decide) <| mV 7 1 X0 F0 (rm_au107 G F0 F1 F2 F3 nk_pi1_47 nk_pi2_47 pc_0 pc_1) (u13 G) all0 d7_4 rfl rfl rfl lr (by decide) all0 ?_
  rintro _ _ _ _ X1 rfl K1 _ _
  refine sk [i0, .ref pa1] rfl <| oc 8 (v := 1) X1 d7_7 rfl (by decide) <| o_iadd 9 (v := 1) X1 d7_8 rfl (by decide) ?_
  have f2 := F0.keep K1
  have f3 := F1.k0 K1
  have f4 := F2.k0 K1
  have f5 := F3.k0 K1
  refine mV 12 0 X1 f2 (rm_au112 G f2 f3 f4 f5) (u18 G) all0 d7_9 rfl rfl rfl lr (by decide) all0 ?_
  rintro _ _ _ _ X6 ⟨xa1_7, _, _, rfl, q10, q11, q12, _, q14, q15, _, _⟩ _ _ _
  refine sk [.ref xa1_7] rfl <| oV 13 (l' := #[rr pa1, rr xa1_7, uu]) X6 d7_12 rfl rfl rfl <| oA 14 X6 d7_13 rfl rfl <| ob 16 (v := 46) X6 d7_14 rfl (by decide) <| mV 19 0 X6 q10 (rm_au131 G q10 q11 q12 q14 pc_2) (u13 G) all0 d7_16 rfl rfl rfl lr (by decide) all0 ?_
  rintro _ _ _ _ X18 rfl K18 _ _
  refine sk [.int 2] rfl <| oT 20 (l' := #[rr pa1, rr xa1_7, ii 2]) X18 d7_19 rfl rfl <| oI 21 X18 d7_20 rfl rfl <| oy 28 X18 d7_21 (by decide) ((if0 _ _).trans (flt (by decide)).2.1) <| oA 29 X18 d7_28 rfl rfl <| oI 30 X18 d7_29 rfl rfl <| oc 31 (v := 1) X18 d7_30 rfl (by decide) <| o_iadd 32 (v := 3) X18 d7_31 rfl (by decide) ?_
  have f19 := q10.keep K18
  have f20 := q11.k0 K18
  have f21 := q12.k0 K18
  have f22 := q14.k0 K18
  have f23 := q15.keep K18
  refine mV 35 0 X18 f19 (rm_au97 G f19 f20 f21 f22 f23) (u18 G) all0 d7_32 rfl rfl rfl lr (by decide) all0 ?_
  rintro _ _ _ _ X24 ⟨xa1_25, xa2_26, xk1_27, rfl, q28, q29, q30, q31, _⟩ _ _ _
  refine sk [.ref xa1_25] rfl ?_
  exact oR X24 d7_35 rfl rfl rfl (by decide) (by decide) (fun _ CC => ⟨xa1_25, xa2_26, xk1_27, rfl, q28, q29, q30, q31, by omega⟩)
theorem rm_au133 (G : GL l Z a0 zc fmt) (F0 : av1 Z h0 pa1 pk1 4 [.int pi1, .int pi2, .int pi3, .int pi4]) (nk_pi3_47 : ¬ pi3 = (47 : Int32)) (nk_pi4_47 : ¬ pi4 = (47 : Int32)) (pc_0 : pi2 = (47 : Int32)) : M13 l Z 1 0 0 13 #[.ref pa1, .int 47, .int 3] h0 n0 [] [] (Q5 Z  h0) := by
  refine mi B13 ef10 (hEW G) fun s X0 hsf0 n0le => ?_
  have := F0.l
  refine oI 1 X0 d13_0 rfl rfl <| mS 4 0 X0 (rm_au8 G (by decide) (by decide)) (u9 G) all0 d13_1 rfl rfl rfl lr (by decide) all0 ?_
  rintro _ _ _ _ X1 rfl K1 _ _
  refine sk [.int 1] rfl <| oy 9 X1 d13_4 (by decide) ((if0 _ _).trans (feq (by decide)).2) <| oI 10 X1 d13_9 rfl rfl <| oA 11 X1 d13_10 rfl rfl ?_
  have f2 := F0.k0 K1
  refine oL 12 X1 f2 d13_11 rfl <| oc 13 (v := 1) X1 d13_12 rfl (by decide) <| o_isub 14 (v := 3) X1 d13_13 rfl (by decide) <| mS 17 0 X1 (rm_au9 G (by decide)) (u10 G) all0 d13_14 rfl rfl rfl lr (by decide) all0 ?_
  rintro _ _ _ _ X3 rfl K3 _ _
  refine sk [.int 3] rfl <| oT 18 (l' := #[rr pa1, ii 47, ii 3, ii 3]) X3 d13_17 rfl rfl <| oI 19 X3 d13_18 rfl rfl <| on 22 X3 d13_19 rfl ((if0 _ _).trans (flt (by decide)).1) <| oA 23 X3 d13_22 rfl rfl <| oI 24 X3 d13_23 rfl rfl ?_
  have f4 := f2.k0 K3
  refine oB 25 (v := (.int pi4)) X3 f4 ⟨by decide, by decide⟩ rfl d13_24 rfl <| oI 26 X3 d13_25 rfl rfl <| o_i2b 27 (v := 47) X3 d13_26 rfl (by decide) <| oY 32 X3 d13_27 (by decide) (feq nk_pi4_47).2 <| oJ 35 2 #[rr pa1, ii 47, ii 3, ii 2] X3 d13_32 rfl rfl (by decide) rfl <| og 18 X3 d13_35 (by decide) <| oI 19 X3 d13_18 rfl rfl <| on 22 X3 d13_19 rfl ((if0 _ _).trans (flt (by decide)).1) <| oA 23 X3 d13_22 rfl rfl <| oI 24 X3 d13_23 rfl rfl <| oB 25 (v := (.int pi3)) X3 f4 ⟨by decide, by decide⟩ rfl d13_24 rfl <| oI 26 X3 d13_25 rfl rfl ?_
  refine o_i2b 27 (v := 47) X3 d13_26 rfl (by decide) <| oY 32 X3 d13_27 (by decide) (feq nk_pi3_47).2 <| oJ 35 1 #[rr pa1, ii 47, ii 3, ii 1] X3 d13_32 rfl rfl (by decide) rfl <| og 18 X3 d13_35 (by decide) <| oI 19 X3 d13_18 rfl rfl <| on 22 X3 d13_19 rfl ((if0 _ _).trans (flt (by decide)).1) <| oA 23 X3 d13_22 rfl rfl <| oI 24 X3 d13_23 rfl rfl <| oB 25 (v := (.int pi2)) X3 f4 ⟨by decide, by decide⟩ rfl d13_24 rfl <| oI 26 X3 d13_25 rfl rfl <| o_i2b 27 (v := 47) X3 d13_26 rfl (by decide) <| oN 30 X3 d13_27 rfl (teq pc_0).2 ?_
  refine oI 31 X3 d13_30 rfl rfl ?_
  exact o_iret X3 d13_31 rfl (by decide) (by decide) (fun _ CC => rfl)
theorem rm_au134 (G : GL l Z a0 zc fmt) (F0 : ex1 Z h0 pa1) (F1 : fd0 Z h0 pa1 (.int 0)) (F2 : fd1 Z h0 pa1 (.ref pa2)) (F3 : av1 Z h0 pa2 pk1 4 [.int pi1, .int pi2, .int pi3, .int pi4]) (nk_pi3_47 : ¬ pi3 = (47 : Int32)) (nk_pi4_47 : ¬ pi4 = (47 : Int32)) (pc_0 : pi2 = (47 : Int32)) : M11 l Z 2 0 0 28 #[.ref pa1, .int 47, .int 3] h0 n0 [] [] (Q5 Z  h0) := by
  refine mi B11 ef9 (hEW G) fun s X0 hsf0 n0le => ?_
  have := F0.l
  have := F3.l
  refine oA 1 X0 d11_0 rfl rfl <| mV 4 0 X0 F0 (rm_au7 G F1 (by decide)) (u8 G) all0 d11_1 rfl rfl rfl lr (by decide) all0 ?_
  rintro _ _ _ _ X1 rfl K1 _ _
  refine sk [.int 1] rfl <| on 7 X1 d11_4 rfl ((if0 _ _).trans (feq (by decide)).1) <| oA 8 X1 d11_7 rfl rfl ?_
  have f2 := F2.k0 K1
  refine oF 11 X1 (w33 G) Via.refl f2 d11_8 rfl ?_
  intro _ X4
  refine oI 12 X4 d11_11 rfl rfl <| oI 13 X4 d11_12 rfl rfl ?_
  have f5 := F3.k0 K1
  refine mS 16 0 X4 (rm_au133 G f5 nk_pi3_47 nk_pi4_47 pc_0) (u11 G) all0 d11_13 rfl rfl rfl lr (by decide) all0 ?_
  rintro _ _ _ _ X6 rfl _ _ _
  refine sk [.int 1] rfl <| og 28 X6 d11_16 (by decide) ?_
  exact o_iret X6 d11_28 rfl (by decide) (by decide) (fun _ CC => rfl)
theorem rm_au135 (G : GL l Z a0 zc fmt) (F0 : ex1 Z h0 pa1) (F1 : fd0 Z h0 pa1 (.int 0)) (F2 : fd1 Z h0 pa1 (.ref pa2)) (F3 : av1 Z h0 pa2 pk1 4 [.int pi1, .int pi2, .int pi3, .int pi4]) (nk_pi3_47 : ¬ pi3 = (47 : Int32)) (nk_pi4_47 : ¬ pi4 = (47 : Int32)) (pc_0 : pi2 = (47 : Int32)) : M8 l Z 3 0 0 42 #[.ref pa1, .int 47] h0 n0 [] [] (Q5 Z  h0) := by
  refine mi B8 ef6 (hEW G) fun s X0 hsf0 n0le => ?_
  have := F0.l
  have := F3.l
  refine oA 1 X0 d8_0 rfl rfl <| oI 2 X0 d8_1 rfl rfl <| oA 3 X0 d8_2 rfl rfl <| mV 6 2 X0 F0 (rm_au104 G F0 F1 F2 F3) (u7 G) all0 d8_3 rfl rfl rfl lr (by decide) all0 ?_
  rintro _ _ _ _ X1 rfl K1 _ _
  refine sk [.int 4, .int 47, .ref pa1] rfl <| oc 7 (v := 1) X1 d8_6 rfl (by decide) <| o_isub 8 (v := 3) X1 d8_7 rfl (by decide) ?_
  have f2 := F0.keep K1
  have f3 := F1.k0 K1
  have f4 := F2.k0 K1
  have f5 := F3.k0 K1
  refine mV 11 0 X1 f2 (rm_au134 G f2 f3 f4 f5 nk_pi3_47 nk_pi4_47 pc_0) (u12 G) all0 d8_8 rfl rfl rfl lr (by decide) all0 ?_
  rintro _ _ _ _ X6 rfl _ _ _
  refine sk [.int 1] rfl ?_
  exact o_iret X6 d8_11 rfl (by decide) (by decide) (fun _ CC => rfl)
theorem rm_au136 (G : GL l Z a0 zc fmt) (F0 : av1 Z h0 pa1 pk1 4 [.int pi1, .int pi2, .int pi3, .int pi4]) : M22 l Z 1 1 2 40 #[.ref pa1, .int 2, .int 4] h0 n0 [] [] (Q22 Z pi3 pi4 h0) := by
  refine mi B22 ef13 (hEW G) fun s X0 hsf0 n0le => ?_
  have := F0.l
  refine oI 1 X0 d22_0 rfl rfl <| oI 2 X0 d22_1 rfl rfl <| mS 5 0 X0 (rm_au32 G (by decide)) (u20 G) all0 d22_2 rfl rfl rfl lr (by decide) all0 ?_
  rintro _ _ _ _ X1 rfl K1 _ _
  refine sk [] rfl <| oI 6 X1 d22_5 rfl rfl <| oI 7 X1 d22_6 rfl rfl <| o_isub 8 (v := 2) X1 d22_7 rfl (by decide) <| oT 9 (l' := #[rr pa1, ii 2, ii 4, ii 2, uu]) X1 d22_8 rfl rfl <| oI 10 X1 d22_9 rfl rfl <| nP (aty := .byte) 12 2 X1 (w24 G) d22_10 rfl (by decide) had_byte ?_
  intro _ h2 b2 k2 X2 _ _ E2 V2 A2 _ S2
  have V3 : av1 Z h2 b2 k2 2 [i0, i0] := V2.pad (pad_rep [] (.int (0 : Int32)) 2)
  refine oU 14 (l' := #[rr pa1, ii 2, ii 4, ii 2, rr b2]) X2 d22_12 rfl rfl rfl <| oA 15 X2 d22_14 rfl rfl <| oI 16 X2 d22_15 rfl rfl <| oa 18 X2 d22_16 rfl rfl <| oc 19 (v := 0) X2 d22_18 rfl (by decide) <| oA 20 X2 d22_19 rfl rfl ?_
  have f4 := (F0.k0 K1).ext E2
  refine oL 21 X2 f4 d22_20 rfl <| oI 22 X2 d22_21 rfl rfl <| o_isub 23 (v := 2) X2 d22_22 rfl (by decide) <| oI 24 X2 d22_23 rfl rfl <| mS 27 4 X2 (rm_au9 G (by decide)) (u21 G) all0 d22_24 rfl rfl rfl lr (by decide) all0 ?_
  rintro _ _ _ _ X5 rfl K5 _ C5
  refine sk [.int 2, i0, .ref b2, .int 2, .ref pa1] rfl ?_
  have f6 := f4.k0 K5
  have f7 := V3.k0 K5
  have f8 := C5.safe (own_lt (by omega)) S2
  refine o_cp 30 (us := [.int pi3, .int pi4]) (vr := [.int pi3, .int pi4]) (W := 0) X5 (w111 G) (w114 G) (w112 G) (w113 G) f6 f7 (Or.inl ⟨rfl, rfl⟩) (by decide) (by decide) (by decide) (by decide) (by decide) rfl (Nat.le_of_ble_eq_true rfl) rfl d22_27 rfl rfl (by decide) (Nat.le_of_eq rfl) (by decide) (by omega) (Or.inr (by omega)) f8 ?_
  intro _ _ X9 K9 C9 V9
  have := K9.1
  refine oa 32 X9 d22_30 rfl rfl ?_
  have f10 := (A2.keep K5).keep K9
  have f11 := C9.safe (own_lt (by omega)) f8
  exact oR X9 d22_32 rfl rfl rfl (by decide) (by decide) (fun _ CC => ⟨b2, k2, rfl, V9, f10, (CC.safe (own_lt (by omega)) f11), by omega⟩)
theorem rm_au137 (G : GL l Z a0 zc fmt) (F0 : av1 Z h0 pa1 pk1 4 [.int pi1, .int pi2, .int pi3, .int pi4]) : M21 l Z 2 1 2 56 #[.ref pa1, .int 2, .int 4] h0 n0 [] [] (Q22 Z pi3 pi4 h0) := by
  refine mi B21 ef9 (hEW G) fun s X0 hsf0 n0le => ?_
  have := F0.l
  refine oI 1 X0 d21_0 rfl rfl <| oy 10 X0 d21_1 (by decide) ((if0 _ _).trans (feq (by decide)).2) <| oA 11 X0 d21_10 rfl rfl <| oI 12 X0 d21_11 rfl rfl <| oI 13 X0 d21_12 rfl rfl <| mS 16 0 X0 (rm_au136 G F0) (u22 G) all0 d21_13 rfl rfl rfl lr (by decide) all0 ?_
  rintro _ _ _ _ X1 ⟨xa1_2, xk1_3, rfl, q4, q5, q6, _⟩ _ _ _
  refine sk [.ref xa1_2] rfl ?_
  exact oR X1 d21_16 rfl rfl rfl (by decide) (by decide) (fun _ CC => ⟨xa1_2, xk1_3, rfl, q4, q5, (CC.safe (own_lt (by omega)) q6), by omega⟩)
theorem rm_au138 (G : GL l Z a0 zc fmt) (F0 : av1 Z h0 pa1 pk1 4 [.int pi1, .int pi2, .int pi3, .int pi4]) : M20 l Z 3 2 6 72 #[.ref pa1, .int 2, .int 2] h0 n0 [] [] (Q23 Z pi3 pi4 h0) := by
  refine mi B20 ef9 (hEW G) fun s X0 hsf0 n0le => ?_
  have l1 := F0.l
  refine oI 1 X0 d20_0 rfl rfl <| oy 7 X0 d20_1 (by decide) ((if0 _ _).trans (feq (by decide)).2) <| o_new 10 X0 (w99 G) (w7 G) (w8 G) d20_7 rfl (by decide) (by decide) ?_
  intro _ h1 b1 X1 _ l1 E1 A1 D1 _ _ S1
  have f2 : fd0 Z h1 b1 (.int 0) := D1 (Or.inr (w32 G)) fd_0
  have f3 : fd1 Z h1 b1 .null := D1 (Or.inr (w34 G)) fd_1
  refine oD 11 X1 d20_10 rfl rfl <| oA 12 X1 d20_11 rfl rfl <| oI 13 X1 d20_12 rfl rfl <| oI 14 X1 d20_13 rfl rfl <| oI 15 X1 d20_14 rfl rfl <| o_iadd 16 (v := 4) X1 d20_15 rfl (by decide) ?_
  have f4 := F0.ext E1
  refine mS 19 2 X1 (rm_au137 G f4) (u23 G) all0 d20_16 rfl rfl rfl lr (by decide) all0 ?_
  rintro _ _ _ _ X5 ⟨xa1_6, xk1_7, rfl, q8, q9, q10, _⟩ K5 _ C5
  refine sk [.ref xa1_6, .ref b1, .ref b1] rfl <| oc 20 (v := 0) X5 d20_19 rfl (by decide) ?_
  have f12 := A1.keep K5
  have f13 := f2.k0 K5
  have f14 := f3.k0 K5
  have f15 := C5.safe (own_lt (by omega)) S1
  refine mP 23 1 X5 (rm_au35 G f12 f13 f14 (by omega)) (u24 G) (sS (by omega) f15 all0) d20_20 rfl rfl rfl lr (by decide) (aR (by omega) all0) ?_
  rintro _ _ _ _ X16 ⟨rfl, q17, q18, q19⟩ K16 _ C16
  refine sk [.ref b1] rfl ?_
  have f20 := C16.safe (own_lt (by omega)) f15
  have f21 := q8.k1 K16 (by omega)
  have f22 := q9.keep K16
  have f23 := C16.safe (own_lt (by omega)) q10
  exact oR X16 d20_23 rfl rfl rfl (by decide) (by decide) (fun _ CC => ⟨b1, xa1_6, xk1_7, rfl, q17, q18, q19, (CC.safe (own_lt (by omega)) f20), f21, f22, (CC.safe (own_lt (by omega)) f23), by omega⟩)
theorem rm_au139 (G : GL l Z a0 zc fmt) (F0 : ex1 Z h0 pa1) (F1 : fd0 Z h0 pa1 (.int 0)) (F2 : fd1 Z h0 pa1 (.ref pa2)) (F3 : av1 Z h0 pa2 pk1 4 [.int pi1, .int pi2, .int pi3, .int pi4]) : M17 l Z 4 2 6 86 #[.ref pa1, .int 2, .int 4] h0 n0 [] [] (Q23 Z pi3 pi4 h0) := by
  refine mi B17 ef13 (hEW G) fun s X0 hsf0 n0le => ?_
  have := F0.l
  have := F3.l
  refine oA 1 X0 d17_0 rfl rfl <| mV 4 0 X0 F0 (rm_au104 G F0 F1 F2 F3) (u7 G) all0 d17_1 rfl rfl rfl lr (by decide) all0 ?_
  rintro _ _ _ _ X1 rfl K1 _ _
  refine sk [.int 4] rfl <| oT 5 (l' := #[rr pa1, ii 2, ii 4, ii 4, uu]) X1 d17_4 rfl rfl <| oI 6 X1 d17_5 rfl rfl <| oI 7 X1 d17_6 rfl rfl <| oI 8 X1 d17_7 rfl rfl <| mS 11 0 X1 (rm_au14 G (by decide) (by decide) (by decide)) (u15 G) all0 d17_8 rfl rfl rfl lr (by decide) all0 ?_
  rintro _ _ _ _ X2 rfl K2 _ _
  refine sk [] rfl <| oI 12 X2 d17_11 rfl rfl <| oy 22 X2 d17_12 (by decide) ((if0 _ _).trans (feq (by decide)).2) <| oI 23 X2 d17_22 rfl rfl <| oI 24 X2 d17_23 rfl rfl <| o_isub 25 (v := 2) X2 d17_24 rfl (by decide) <| oS 27 (l' := #[rr pa1, ii 2, ii 4, ii 4, ii 2]) X2 d17_25 rfl rfl <| oA 28 X2 d17_27 rfl rfl ?_
  have f3 := (F1.k0 K1).k0 K2
  have f4 := (F0.keep K1).keep K2
  refine mV 31 0 X2 f4 (rm_au7 G f3 (by decide)) (u8 G) all0 d17_28 rfl rfl rfl lr (by decide) all0 ?_
  rintro _ _ _ _ X5 rfl K5 _ _
  refine sk [.int 1] rfl <| on 34 X5 d17_31 rfl ((if0 _ _).trans (feq (by decide)).1) <| oA 35 X5 d17_34 rfl rfl ?_
  have f6 := ((F2.k0 K1).k0 K2).k0 K5
  refine oF 38 X5 (w33 G) Via.refl f6 d17_35 rfl ?_
  intro _ X8
  refine oI 39 X8 d17_38 rfl rfl <| oi 41 X8 d17_39 rfl rfl ?_
  have f9 := ((F3.k0 K1).k0 K2).k0 K5
  refine mS 44 0 X8 (rm_au138 G f9) (u16 G) all0 d17_41 rfl rfl rfl lr (by decide) all0 ?_
  rintro _ _ _ _ X10 ⟨xa1_11, xa2_12, xk1_13, rfl, q14, q15, q16, q17, q18, q19, q20, _⟩ _ _ _
  refine sk [.ref xa1_11] rfl <| og 57 X10 d17_44 (by decide) ?_
  exact oR X10 d17_57 rfl rfl rfl (by decide) (by decide) (fun _ CC => ⟨xa1_11, xa2_12, xk1_13, rfl, q14, q15, q16, (CC.safe (own_lt (by omega)) q17), q18, q19, (CC.safe (own_lt (by omega)) q20), by omega⟩)
theorem rm_au140 (G : GL l Z a0 zc fmt) (F0 : ex1 Z h0 pa1) (F1 : fd0 Z h0 pa1 (.int 0)) (F2 : fd1 Z h0 pa1 (.ref pa2)) (F3 : av1 Z h0 pa2 pk1 4 [.int pi1, .int pi2, .int pi3, .int pi4]) : M16 l Z 5 2 6 102 #[.ref pa1, .int 2] h0 n0 [] [] (Q23 Z pi3 pi4 h0) := by
  refine mi B16 ef6 (hEW G) fun s X0 hsf0 n0le => ?_
  have := F0.l
  have := F3.l
  refine oA 1 X0 d16_0 rfl rfl <| oI 2 X0 d16_1 rfl rfl <| oA 3 X0 d16_2 rfl rfl <| mV 6 2 X0 F0 (rm_au104 G F0 F1 F2 F3) (u7 G) all0 d16_3 rfl rfl rfl lr (by decide) all0 ?_
  rintro _ _ _ _ X1 rfl K1 _ _
  refine sk [.int 4, .int 2, .ref pa1] rfl ?_
  have f2 := F0.keep K1
  have f3 := F1.k0 K1
  have f4 := F2.k0 K1
  have f5 := F3.k0 K1
  refine mV 9 0 X1 f2 (rm_au139 G f2 f3 f4 f5) (u17 G) all0 d16_6 rfl rfl rfl lr (by decide) all0 ?_
  rintro _ _ _ _ X6 ⟨xa1_7, xa2_8, xk1_9, rfl, q10, q11, q12, q13, q14, q15, q16, _⟩ _ _ _
  refine sk [.ref xa1_7] rfl ?_
  exact oR X6 d16_9 rfl rfl rfl (by decide) (by decide) (fun _ CC => ⟨xa1_7, xa2_8, xk1_9, rfl, q10, q11, q12, (CC.safe (own_lt (by omega)) q13), q14, q15, (CC.safe (own_lt (by omega)) q16), by omega⟩)
theorem rm_au141 (G : GL l Z a0 zc fmt) (F0 : ex1 Z h0 pa1) (F1 : fd0 Z h0 pa1 (.int 0)) (F2 : fd1 Z h0 pa1 (.ref pa2)) (F3 : av1 Z h0 pa2 pk1 4 [.int pi100, .int pi101, .int pi1, .int pi2]) (nk_pi1_46 : ¬ pi1 = (46 : Int32)) (nk_pi1_47 : ¬ pi1 = (47 : Int32)) (nk_pi2_46 : ¬ pi2 = (46 : Int32)) (nk_pi2_47 : ¬ pi2 = (47 : Int32)) (pc_0 : pi101 = (47 : Int32)) : M7 l Z 6 2 6 115 #[.ref pa1] h0 n0 [] [] (Q10 Z  h0) := by
  refine mi B7 ef7 (hEW G) fun s X0 hsf0 n0le => ?_
  have := F0.l
  have := F3.l
  refine oA 1 X0 d7_0 rfl rfl <| oA 2 X0 d7_1 rfl rfl <| ob 4 (v := 47) X0 d7_2 rfl (by decide) <| mV 7 1 X0 F0 (rm_au135 G F0 F1 F2 F3 nk_pi1_47 nk_pi2_47 pc_0) (u13 G) all0 d7_4 rfl rfl rfl lr (by decide) all0 ?_
  rintro _ _ _ _ X1 rfl K1 _ _
  refine sk [.int 1, .ref pa1] rfl <| oc 8 (v := 1) X1 d7_7 rfl (by decide) <| o_iadd 9 (v := 2) X1 d7_8 rfl (by decide) ?_
  have f2 := F0.keep K1
  have f3 := F1.k0 K1
  have f4 := F2.k0 K1
  have f5 := F3.k0 K1
  refine mV 12 0 X1 f2 (rm_au140 G f2 f3 f4 f5) (u18 G) all0 d7_9 rfl rfl rfl lr (by decide) all0 ?_
  rintro _ _ _ _ X6 ⟨xa1_7, _, _, rfl, q10, q11, q12, _, q14, _, _, _⟩ _ _ _
  refine sk [.ref xa1_7] rfl <| oV 13 (l' := #[rr pa1, rr xa1_7, uu]) X6 d7_12 rfl rfl rfl <| oA 14 X6 d7_13 rfl rfl <| ob 16 (v := 46) X6 d7_14 rfl (by decide) <| mV 19 0 X6 q10 (rm_au69 G q10 q11 q12 q14 nk_pi1_46 nk_pi2_46) (u13 G) all0 d7_16 rfl rfl rfl lr (by decide) all0 ?_
  rintro _ _ _ _ X18 rfl _ _ _
  refine sk [.int (-1)] rfl <| oT 20 (l' := #[rr pa1, rr xa1_7, ii (-1)]) X18 d7_19 rfl rfl <| oI 21 X18 d7_20 rfl rfl <| on 24 X18 d7_21 rfl ((if0 _ _).trans (tlt (by decide)).2.1) <| o_aconstNull 25 X18 d7_24 rfl <| og 35 X18 d7_25 (by decide) ?_
  exact oR X18 d7_35 rfl rfl rfl (by decide) (by decide) (fun _ CC => rfl)
theorem rm_au142 (G : GL l Z a0 zc fmt) (F0 : ex1 Z h0 pa1) (F1 : fd0 Z h0 pa1 (.int 0)) (F2 : fd1 Z h0 pa1 (.ref pa2)) (F3 : av1 Z h0 pa2 pk1 4 [.int pi100, .int pi101, .int pi102, .int pi1]) (nk_pi1_46 : ¬ pi1 = (46 : Int32)) (nk_pi1_47 : ¬ pi1 = (47 : Int32)) (pc_0 : ¬ pi102 = (47 : Int32)) (pc_1 : pi101 = (47 : Int32)) (pc_2 : pi102 = (46 : Int32)) : M7 l Z 6 4 11 115 #[.ref pa1] h0 n0 [] [] (Q17 Z pi1 h0) := by
  refine mi B7 ef7 (hEW G) fun s X0 hsf0 n0le => ?_
  have := F0.l
  have := F3.l
  refine oA 1 X0 d7_0 rfl rfl <| oA 2 X0 d7_1 rfl rfl <| ob 4 (v := 47) X0 d7_2 rfl (by decide) <| mV 7 1 X0 F0 (rm_au135 G F0 F1 F2 F3 pc_0 nk_pi1_47 pc_1) (u13 G) all0 d7_4 rfl rfl rfl lr (by decide) all0 ?_
  rintro _ _ _ _ X1 rfl K1 _ _
  refine sk [.int 1, .ref pa1] rfl <| oc 8 (v := 1) X1 d7_7 rfl (by decide) <| o_iadd 9 (v := 2) X1 d7_8 rfl (by decide) ?_
  have f2 := F0.keep K1
  have f3 := F1.k0 K1
  have f4 := F2.k0 K1
  have f5 := F3.k0 K1
  refine mV 12 0 X1 f2 (rm_au140 G f2 f3 f4 f5) (u18 G) all0 d7_9 rfl rfl rfl lr (by decide) all0 ?_
  rintro _ _ _ _ X6 ⟨xa1_7, _, _, rfl, q10, q11, q12, _, q14, _, _, _⟩ _ _ _
  refine sk [.ref xa1_7] rfl <| oV 13 (l' := #[rr pa1, rr xa1_7, uu]) X6 d7_12 rfl rfl rfl <| oA 14 X6 d7_13 rfl rfl <| ob 16 (v := 46) X6 d7_14 rfl (by decide) <| mV 19 0 X6 q10 (rm_au73 G q10 q11 q12 q14 nk_pi1_46 pc_2) (u13 G) all0 d7_16 rfl rfl rfl lr (by decide) all0 ?_
  rintro _ _ _ _ X18 rfl K18 _ _
  refine sk [i0] rfl <| oT 20 (l' := #[rr pa1, rr xa1_7, ii 0]) X18 d7_19 rfl rfl <| oI 21 X18 d7_20 rfl rfl <| oy 28 X18 d7_21 (by decide) ((if0 _ _).trans (flt (by decide)).2.1) <| oA 29 X18 d7_28 rfl rfl <| oI 30 X18 d7_29 rfl rfl <| oc 31 (v := 1) X18 d7_30 rfl (by decide) <| o_iadd 32 (v := 1) X18 d7_31 rfl (by decide) ?_
  have f19 := q10.keep K18
  have f20 := q11.k0 K18
  have f21 := q12.k0 K18
  have f22 := q14.k0 K18
  refine mV 35 0 X18 f19 (rm_au38 G f19 f20 f21 f22) (u18 G) all0 d7_32 rfl rfl rfl lr (by decide) all0 ?_
  rintro _ _ _ _ X23 ⟨xa1_24, xa2_25, xk1_26, rfl, q27, q28, q29, q30, q31, q32, q33, _⟩ _ _ _
  refine sk [.ref xa1_24] rfl ?_
  exact oR X23 d7_35 rfl rfl rfl (by decide) (by decide) (fun _ CC => ⟨xa1_24, xa2_25, xk1_26, rfl, q27, q28, q29, (CC.safe (own_lt (by omega)) q30), q31, q32, (CC.safe (own_lt (by omega)) q33), by omega⟩)
theorem rm_au143 (G : GL l Z a0 zc fmt) (F0 : ex1 Z h0 pa1) (F1 : fd0 Z h0 pa1 (.int 0)) (F2 : fd1 Z h0 pa1 (.ref pa2)) (F3 : av1 Z h0 pa2 pk1 4 [.int pi100, .int pi101, .int pi1, .int pi102]) (nk_pi1_47 : ¬ pi1 = (47 : Int32)) (pc_0 : ¬ pi102 = (47 : Int32)) (pc_1 : pi101 = (47 : Int32)) (pc_2 : pi102 = (46 : Int32)) : M7 l Z 6 4 10 115 #[.ref pa1] h0 n0 [] [] (Q8 Z  h0) := by
  refine mi B7 ef7 (hEW G) fun s X0 hsf0 n0le => ?_
  have := F0.l
  have := F3.l
  refine oA 1 X0 d7_0 rfl rfl <| oA 2 X0 d7_1 rfl rfl <| ob 4 (v := 47) X0 d7_2 rfl (by decide) <| mV 7 1 X0 F0 (rm_au135 G F0 F1 F2 F3 nk_pi1_47 pc_0 pc_1) (u13 G) all0 d7_4 rfl rfl rfl lr (by decide) all0 ?_
  rintro _ _ _ _ X1 rfl K1 _ _
  refine sk [.int 1, .ref pa1] rfl <| oc 8 (v := 1) X1 d7_7 rfl (by decide) <| o_iadd 9 (v := 2) X1 d7_8 rfl (by decide) ?_
  have f2 := F0.keep K1
  have f3 := F1.k0 K1
  have f4 := F2.k0 K1
  have f5 := F3.k0 K1
  refine mV 12 0 X1 f2 (rm_au140 G f2 f3 f4 f5) (u18 G) all0 d7_9 rfl rfl rfl lr (by decide) all0 ?_
  rintro _ _ _ _ X6 ⟨xa1_7, _, _, rfl, q10, q11, q12, _, q14, q15, _, _⟩ _ _ _
  refine sk [.ref xa1_7] rfl <| oV 13 (l' := #[rr pa1, rr xa1_7, uu]) X6 d7_12 rfl rfl rfl <| oA 14 X6 d7_13 rfl rfl <| ob 16 (v := 46) X6 d7_14 rfl (by decide) <| mV 19 0 X6 q10 (rm_au81 G q10 q11 q12 q14 pc_2) (u13 G) all0 d7_16 rfl rfl rfl lr (by decide) all0 ?_
  rintro _ _ _ _ X18 rfl K18 _ _
  refine sk [.int 1] rfl <| oT 20 (l' := #[rr pa1, rr xa1_7, ii 1]) X18 d7_19 rfl rfl <| oI 21 X18 d7_20 rfl rfl <| oy 28 X18 d7_21 (by decide) ((if0 _ _).trans (flt (by decide)).2.1) <| oA 29 X18 d7_28 rfl rfl <| oI 30 X18 d7_29 rfl rfl <| oc 31 (v := 1) X18 d7_30 rfl (by decide) <| o_iadd 32 (v := 2) X18 d7_31 rfl (by decide) ?_
  have f19 := q10.keep K18
  have f20 := q11.k0 K18
  have f21 := q12.k0 K18
  have f22 := q14.k0 K18
  have f23 := q15.keep K18
  refine mV 35 0 X18 f19 (rm_au51 G f19 f20 f21 f22 f23) (u18 G) all0 d7_32 rfl rfl rfl lr (by decide) all0 ?_
  rintro _ _ _ _ X24 ⟨xa1_25, xa2_26, xk1_27, rfl, q28, q29, q30, q31, _⟩ _ _ _
  refine sk [.ref xa1_25] rfl ?_
  exact oR X24 d7_35 rfl rfl rfl (by decide) (by decide) (fun _ CC => ⟨xa1_25, xa2_26, xk1_27, rfl, q28, q29, q30, q31, by omega⟩)
theorem rm_au144 (G : GL l Z a0 zc fmt) (F0 : av1 Z h0 pa1 pk1 4 [.int pi1, .int pi2, .int pi3, .int pi4]) (nk_pi4_47 : ¬ pi4 = (47 : Int32)) (pc_0 : pi3 = (47 : Int32)) : M13 l Z 1 0 0 13 #[.ref pa1, .int 47, .int 3] h0 n0 [] [] (Q14 Z  h0) := by
  refine mi B13 ef10 (hEW G) fun s X0 hsf0 n0le => ?_
  have := F0.l
  refine oI 1 X0 d13_0 rfl rfl <| mS 4 0 X0 (rm_au8 G (by decide) (by decide)) (u9 G) all0 d13_1 rfl rfl rfl lr (by decide) all0 ?_
  rintro _ _ _ _ X1 rfl K1 _ _
  refine sk [.int 1] rfl <| oy 9 X1 d13_4 (by decide) ((if0 _ _).trans (feq (by decide)).2) <| oI 10 X1 d13_9 rfl rfl <| oA 11 X1 d13_10 rfl rfl ?_
  have f2 := F0.k0 K1
  refine oL 12 X1 f2 d13_11 rfl <| oc 13 (v := 1) X1 d13_12 rfl (by decide) <| o_isub 14 (v := 3) X1 d13_13 rfl (by decide) <| mS 17 0 X1 (rm_au9 G (by decide)) (u10 G) all0 d13_14 rfl rfl rfl lr (by decide) all0 ?_
  rintro _ _ _ _ X3 rfl K3 _ _
  refine sk [.int 3] rfl <| oT 18 (l' := #[rr pa1, ii 47, ii 3, ii 3]) X3 d13_17 rfl rfl <| oI 19 X3 d13_18 rfl rfl <| on 22 X3 d13_19 rfl ((if0 _ _).trans (flt (by decide)).1) <| oA 23 X3 d13_22 rfl rfl <| oI 24 X3 d13_23 rfl rfl ?_
  have f4 := f2.k0 K3
  refine oB 25 (v := (.int pi4)) X3 f4 ⟨by decide, by decide⟩ rfl d13_24 rfl <| oI 26 X3 d13_25 rfl rfl <| o_i2b 27 (v := 47) X3 d13_26 rfl (by decide) <| oY 32 X3 d13_27 (by decide) (feq nk_pi4_47).2 <| oJ 35 2 #[rr pa1, ii 47, ii 3, ii 2] X3 d13_32 rfl rfl (by decide) rfl <| og 18 X3 d13_35 (by decide) <| oI 19 X3 d13_18 rfl rfl <| on 22 X3 d13_19 rfl ((if0 _ _).trans (flt (by decide)).1) <| oA 23 X3 d13_22 rfl rfl <| oI 24 X3 d13_23 rfl rfl <| oB 25 (v := (.int pi3)) X3 f4 ⟨by decide, by decide⟩ rfl d13_24 rfl <| oI 26 X3 d13_25 rfl rfl ?_
  refine o_i2b 27 (v := 47) X3 d13_26 rfl (by decide) <| oN 30 X3 d13_27 rfl (teq pc_0).2 <| oI 31 X3 d13_30 rfl rfl ?_
  exact o_iret X3 d13_31 rfl (by decide) (by decide) (fun _ CC => rfl)
theorem rm_au145 (G : GL l Z a0 zc fmt) (F0 : ex1 Z h0 pa1) (F1 : fd0 Z h0 pa1 (.int 0)) (F2 : fd1 Z h0 pa1 (.ref pa2)) (F3 : av1 Z h0 pa2 pk1 4 [.int pi1, .int pi2, .int pi3, .int pi4]) (nk_pi4_47 : ¬ pi4 = (47 : Int32)) (pc_0 : pi3 = (47 : Int32)) : M11 l Z 2 0 0 28 #[.ref pa1, .int 47, .int 3] h0 n0 [] [] (Q14 Z  h0) := by
  refine mi B11 ef9 (hEW G) fun s X0 hsf0 n0le => ?_
  have := F0.l
  have := F3.l
  refine oA 1 X0 d11_0 rfl rfl <| mV 4 0 X0 F0 (rm_au7 G F1 (by decide)) (u8 G) all0 d11_1 rfl rfl rfl lr (by decide) all0 ?_
  rintro _ _ _ _ X1 rfl K1 _ _
  refine sk [.int 1] rfl <| on 7 X1 d11_4 rfl ((if0 _ _).trans (feq (by decide)).1) <| oA 8 X1 d11_7 rfl rfl ?_
  have f2 := F2.k0 K1
  refine oF 11 X1 (w33 G) Via.refl f2 d11_8 rfl ?_
  intro _ X4
  refine oI 12 X4 d11_11 rfl rfl <| oI 13 X4 d11_12 rfl rfl ?_
  have f5 := F3.k0 K1
  refine mS 16 0 X4 (rm_au144 G f5 nk_pi4_47 pc_0) (u11 G) all0 d11_13 rfl rfl rfl lr (by decide) all0 ?_
  rintro _ _ _ _ X6 rfl _ _ _
  refine sk [.int 2] rfl <| og 28 X6 d11_16 (by decide) ?_
  exact o_iret X6 d11_28 rfl (by decide) (by decide) (fun _ CC => rfl)
theorem rm_au146 (G : GL l Z a0 zc fmt) (F0 : ex1 Z h0 pa1) (F1 : fd0 Z h0 pa1 (.int 0)) (F2 : fd1 Z h0 pa1 (.ref pa2)) (F3 : av1 Z h0 pa2 pk1 4 [.int pi1, .int pi2, .int pi3, .int pi4]) (nk_pi4_47 : ¬ pi4 = (47 : Int32)) (pc_0 : pi3 = (47 : Int32)) : M8 l Z 3 0 0 42 #[.ref pa1, .int 47] h0 n0 [] [] (Q14 Z  h0) := by
  refine mi B8 ef6 (hEW G) fun s X0 hsf0 n0le => ?_
  have := F0.l
  have := F3.l
  refine oA 1 X0 d8_0 rfl rfl <| oI 2 X0 d8_1 rfl rfl <| oA 3 X0 d8_2 rfl rfl <| mV 6 2 X0 F0 (rm_au104 G F0 F1 F2 F3) (u7 G) all0 d8_3 rfl rfl rfl lr (by decide) all0 ?_
  rintro _ _ _ _ X1 rfl K1 _ _
  refine sk [.int 4, .int 47, .ref pa1] rfl <| oc 7 (v := 1) X1 d8_6 rfl (by decide) <| o_isub 8 (v := 3) X1 d8_7 rfl (by decide) ?_
  have f2 := F0.keep K1
  have f3 := F1.k0 K1
  have f4 := F2.k0 K1
  have f5 := F3.k0 K1
  refine mV 11 0 X1 f2 (rm_au145 G f2 f3 f4 f5 nk_pi4_47 pc_0) (u12 G) all0 d8_8 rfl rfl rfl lr (by decide) all0 ?_
  rintro _ _ _ _ X6 rfl _ _ _
  refine sk [.int 2] rfl ?_
  exact o_iret X6 d8_11 rfl (by decide) (by decide) (fun _ CC => rfl)
theorem rm_au147 (G : GL l Z a0 zc fmt) (F0 : av1 Z h0 pa1 pk1 4 [.int pi1, .int pi2, .int pi3, .int pi4]) : M22 l Z 1 1 1 40 #[.ref pa1, .int 3, .int 4] h0 n0 [] [] (Q15 Z pi4 h0) := by
  refine mi B22 ef13 (hEW G) fun s X0 hsf0 n0le => ?_
  have := F0.l
  refine oI 1 X0 d22_0 rfl rfl <| oI 2 X0 d22_1 rfl rfl <| mS 5 0 X0 (rm_au32 G (by decide)) (u20 G) all0 d22_2 rfl rfl rfl lr (by decide) all0 ?_
  rintro _ _ _ _ X1 rfl K1 _ _
  refine sk [] rfl <| oI 6 X1 d22_5 rfl rfl <| oI 7 X1 d22_6 rfl rfl <| o_isub 8 (v := 1) X1 d22_7 rfl (by decide) <| oT 9 (l' := #[rr pa1, ii 3, ii 4, ii 1, uu]) X1 d22_8 rfl rfl <| oI 10 X1 d22_9 rfl rfl <| nP (aty := .byte) 12 1 X1 (w24 G) d22_10 rfl (by decide) had_byte ?_
  intro _ h2 b2 k2 X2 _ _ E2 V2 A2 _ S2
  have V3 : av1 Z h2 b2 k2 1 [i0] := V2.pad (pad_rep [] (.int (0 : Int32)) 1)
  refine oU 14 (l' := #[rr pa1, ii 3, ii 4, ii 1, rr b2]) X2 d22_12 rfl rfl rfl <| oA 15 X2 d22_14 rfl rfl <| oI 16 X2 d22_15 rfl rfl <| oa 18 X2 d22_16 rfl rfl <| oc 19 (v := 0) X2 d22_18 rfl (by decide) <| oA 20 X2 d22_19 rfl rfl ?_
  have f4 := (F0.k0 K1).ext E2
  refine oL 21 X2 f4 d22_20 rfl <| oI 22 X2 d22_21 rfl rfl <| o_isub 23 (v := 1) X2 d22_22 rfl (by decide) <| oI 24 X2 d22_23 rfl rfl <| mS 27 4 X2 (rm_au9 G (by decide)) (u21 G) all0 d22_24 rfl rfl rfl lr (by decide) all0 ?_
  rintro _ _ _ _ X5 rfl K5 _ C5
  refine sk [.int 1, i0, .ref b2, .int 3, .ref pa1] rfl ?_
  have f6 := f4.k0 K5
  have f7 := V3.k0 K5
  have f8 := C5.safe (own_lt (by omega)) S2
  refine o_cp 30 (us := [.int pi4]) (vr := [.int pi4]) (W := 0) X5 (w111 G) (w114 G) (w112 G) (w113 G) f6 f7 (Or.inl ⟨rfl, rfl⟩) (by decide) (by decide) (by decide) (by decide) (by decide) rfl (Nat.le_of_ble_eq_true rfl) rfl d22_27 rfl rfl (by decide) (Nat.le_of_eq rfl) (by decide) (by omega) (Or.inr (by omega)) f8 ?_
  intro _ _ X9 K9 C9 V9
  have := K9.1
  refine oa 32 X9 d22_30 rfl rfl ?_
  have f10 := (A2.keep K5).keep K9
  have f11 := C9.safe (own_lt (by omega)) f8
  exact oR X9 d22_32 rfl rfl rfl (by decide) (by decide) (fun _ CC => ⟨b2, k2, rfl, V9, f10, (CC.safe (own_lt (by omega)) f11), by omega⟩)
theorem rm_au148 (G : GL l Z a0 zc fmt) (F0 : av1 Z h0 pa1 pk1 4 [.int pi1, .int pi2, .int pi3, .int pi4]) : M21 l Z 2 1 1 56 #[.ref pa1, .int 3, .int 4] h0 n0 [] [] (Q15 Z pi4 h0) := by
  refine mi B21 ef9 (hEW G) fun s X0 hsf0 n0le => ?_
  have := F0.l
  refine oI 1 X0 d21_0 rfl rfl <| oy 10 X0 d21_1 (by decide) ((if0 _ _).trans (feq (by decide)).2) <| oA 11 X0 d21_10 rfl rfl <| oI 12 X0 d21_11 rfl rfl <| oI 13 X0 d21_12 rfl rfl <| mS 16 0 X0 (rm_au147 G F0) (u22 G) all0 d21_13 rfl rfl rfl lr (by decide) all0 ?_
  rintro _ _ _ _ X1 ⟨xa1_2, xk1_3, rfl, q4, q5, q6, _⟩ _ _ _
  refine sk [.ref xa1_2] rfl ?_
  exact oR X1 d21_16 rfl rfl rfl (by decide) (by decide) (fun _ CC => ⟨xa1_2, xk1_3, rfl, q4, q5, (CC.safe (own_lt (by omega)) q6), by omega⟩)
theorem rm_au149 (G : GL l Z a0 zc fmt) (F0 : av1 Z h0 pa1 pk1 4 [.int pi1, .int pi2, .int pi3, .int pi4]) : M20 l Z 3 2 5 72 #[.ref pa1, .int 3, .int 1] h0 n0 [] [] (Q17 Z pi4 h0) := by
  refine mi B20 ef9 (hEW G) fun s X0 hsf0 n0le => ?_
  have l1 := F0.l
  refine oI 1 X0 d20_0 rfl rfl <| oy 7 X0 d20_1 (by decide) ((if0 _ _).trans (feq (by decide)).2) <| o_new 10 X0 (w99 G) (w7 G) (w8 G) d20_7 rfl (by decide) (by decide) ?_
  intro _ h1 b1 X1 _ l1 E1 A1 D1 _ _ S1
  have f2 : fd0 Z h1 b1 (.int 0) := D1 (Or.inr (w32 G)) fd_0
  have f3 : fd1 Z h1 b1 .null := D1 (Or.inr (w34 G)) fd_1
  refine oD 11 X1 d20_10 rfl rfl <| oA 12 X1 d20_11 rfl rfl <| oI 13 X1 d20_12 rfl rfl <| oI 14 X1 d20_13 rfl rfl <| oI 15 X1 d20_14 rfl rfl <| o_iadd 16 (v := 4) X1 d20_15 rfl (by decide) ?_
  have f4 := F0.ext E1
  refine mS 19 2 X1 (rm_au148 G f4) (u23 G) all0 d20_16 rfl rfl rfl lr (by decide) all0 ?_
  rintro _ _ _ _ X5 ⟨xa1_6, xk1_7, rfl, q8, q9, q10, _⟩ K5 _ C5
  refine sk [.ref xa1_6, .ref b1, .ref b1] rfl <| oc 20 (v := 0) X5 d20_19 rfl (by decide) ?_
  have f12 := A1.keep K5
  have f13 := f2.k0 K5
  have f14 := f3.k0 K5
  have f15 := C5.safe (own_lt (by omega)) S1
  refine mP 23 1 X5 (rm_au35 G f12 f13 f14 (by omega)) (u24 G) (sS (by omega) f15 all0) d20_20 rfl rfl rfl lr (by decide) (aR (by omega) all0) ?_
  rintro _ _ _ _ X16 ⟨rfl, q17, q18, q19⟩ K16 _ C16
  refine sk [.ref b1] rfl ?_
  have f20 := C16.safe (own_lt (by omega)) f15
  have f21 := q8.k1 K16 (by omega)
  have f22 := q9.keep K16
  have f23 := C16.safe (own_lt (by omega)) q10
  exact oR X16 d20_23 rfl rfl rfl (by decide) (by decide) (fun _ CC => ⟨b1, xa1_6, xk1_7, rfl, q17, q18, q19, (CC.safe (own_lt (by omega)) f20), f21, f22, (CC.safe (own_lt (by omega)) f23), by omega⟩)
theorem rm_au150 (G : GL l Z a0 zc fmt) (F0 : ex1 Z h0 pa1) (F1 : fd0 Z h0 pa1 (.int 0)) (F2 : fd1 Z h0 pa1 (.ref pa2)) (F3 : av1 Z h0 pa2 pk1 4 [.int pi1, .int pi2, .int pi3, .int pi4]) : M17 l Z 4 2 5 86 #[.ref pa1, .int 3, .int 4] h0 n0 [] [] (Q17 Z pi4 h0) := by
  refine mi B17 ef13 (hEW G) fun s X0 hsf0 n0le => ?_
  have := F0.l
  have := F3.l
  refine oA 1 X0 d17_0 rfl rfl <| mV 4 0 X0 F0 (rm_au104 G F0 F1 F2 F3) (u7 G) all0 d17_1 rfl rfl rfl lr (by decide) all0 ?_
  rintro _ _ _ _ X1 rfl K1 _ _
  refine sk [.int 4] rfl <| oT 5 (l' := #[rr pa1, ii 3, ii 4, ii 4, uu]) X1 d17_4 rfl rfl <| oI 6 X1 d17_5 rfl rfl <| oI 7 X1 d17_6 rfl rfl <| oI 8 X1 d17_7 rfl rfl <| mS 11 0 X1 (rm_au14 G (by decide) (by decide) (by decide)) (u15 G) all0 d17_8 rfl rfl rfl lr (by decide) all0 ?_
  rintro _ _ _ _ X2 rfl K2 _ _
  refine sk [] rfl <| oI 12 X2 d17_11 rfl rfl <| oy 22 X2 d17_12 (by decide) ((if0 _ _).trans (feq (by decide)).2) <| oI 23 X2 d17_22 rfl rfl <| oI 24 X2 d17_23 rfl rfl <| o_isub 25 (v := 1) X2 d17_24 rfl (by decide) <| oS 27 (l' := #[rr pa1, ii 3, ii 4, ii 4, ii 1]) X2 d17_25 rfl rfl <| oA 28 X2 d17_27 rfl rfl ?_
  have f3 := (F1.k0 K1).k0 K2
  have f4 := (F0.keep K1).keep K2
  refine mV 31 0 X2 f4 (rm_au7 G f3 (by decide)) (u8 G) all0 d17_28 rfl rfl rfl lr (by decide) all0 ?_
  rintro _ _ _ _ X5 rfl K5 _ _
  refine sk [.int 1] rfl <| on 34 X5 d17_31 rfl ((if0 _ _).trans (feq (by decide)).1) <| oA 35 X5 d17_34 rfl rfl ?_
  have f6 := ((F2.k0 K1).k0 K2).k0 K5
  refine oF 38 X5 (w33 G) Via.refl f6 d17_35 rfl ?_
  intro _ X8
  refine oI 39 X8 d17_38 rfl rfl <| oi 41 X8 d17_39 rfl rfl ?_
  have f9 := ((F3.k0 K1).k0 K2).k0 K5
  refine mS 44 0 X8 (rm_au149 G f9) (u16 G) all0 d17_41 rfl rfl rfl lr (by decide) all0 ?_
  rintro _ _ _ _ X10 ⟨xa1_11, xa2_12, xk1_13, rfl, q14, q15, q16, q17, q18, q19, q20, _⟩ _ _ _
  refine sk [.ref xa1_11] rfl <| og 57 X10 d17_44 (by decide) ?_
  exact oR X10 d17_57 rfl rfl rfl (by decide) (by decide) (fun _ CC => ⟨xa1_11, xa2_12, xk1_13, rfl, q14, q15, q16, (CC.safe (own_lt (by omega)) q17), q18, q19, (CC.safe (own_lt (by omega)) q20), by omega⟩)
theorem rm_au151 (G : GL l Z a0 zc fmt) (F0 : ex1 Z h0 pa1) (F1 : fd0 Z h0 pa1 (.int 0)) (F2 : fd1 Z h0 pa1 (.ref pa2)) (F3 : av1 Z h0 pa2 pk1 4 [.int pi1, .int pi2, .int pi3, .int pi4]) : M16 l Z 5 2 5 102 #[.ref pa1, .int 3] h0 n0 [] [] (Q17 Z pi4 h0) := by
  refine mi B16 ef6 (hEW G) fun s X0 hsf0 n0le => ?_
  have := F0.l
  have := F3.l
  refine oA 1 X0 d16_0 rfl rfl <| oI 2 X0 d16_1 rfl rfl <| oA 3 X0 d16_2 rfl rfl <| mV 6 2 X0 F0 (rm_au104 G F0 F1 F2 F3) (u7 G) all0 d16_3 rfl rfl rfl lr (by decide) all0 ?_
  rintro _ _ _ _ X1 rfl K1 _ _
  refine sk [.int 4, .int 3, .ref pa1] rfl ?_
  have f2 := F0.keep K1
  have f3 := F1.k0 K1
  have f4 := F2.k0 K1
  have f5 := F3.k0 K1
  refine mV 9 0 X1 f2 (rm_au150 G f2 f3 f4 f5) (u17 G) all0 d16_6 rfl rfl rfl lr (by decide) all0 ?_
  rintro _ _ _ _ X6 ⟨xa1_7, xa2_8, xk1_9, rfl, q10, q11, q12, q13, q14, q15, q16, _⟩ _ _ _
  refine sk [.ref xa1_7] rfl ?_
  exact oR X6 d16_9 rfl rfl rfl (by decide) (by decide) (fun _ CC => ⟨xa1_7, xa2_8, xk1_9, rfl, q10, q11, q12, (CC.safe (own_lt (by omega)) q13), q14, q15, (CC.safe (own_lt (by omega)) q16), by omega⟩)
theorem rm_au152 (G : GL l Z a0 zc fmt) (F0 : ex1 Z h0 pa1) (F1 : fd0 Z h0 pa1 (.int 0)) (F2 : fd1 Z h0 pa1 (.ref pa2)) (F3 : av1 Z h0 pa2 pk1 4 [.int pi100, .int pi1, .int pi101, .int pi2]) (nk_pi2_46 : ¬ pi2 = (46 : Int32)) (nk_pi2_47 : ¬ pi2 = (47 : Int32)) (pc_0 : pi101 = (47 : Int32)) : M7 l Z 6 2 5 115 #[.ref pa1] h0 n0 [] [] (Q10 Z  h0) := by
  refine mi B7 ef7 (hEW G) fun s X0 hsf0 n0le => ?_
  have := F0.l
  have := F3.l
  refine oA 1 X0 d7_0 rfl rfl <| oA 2 X0 d7_1 rfl rfl <| ob 4 (v := 47) X0 d7_2 rfl (by decide) <| mV 7 1 X0 F0 (rm_au146 G F0 F1 F2 F3 nk_pi2_47 pc_0) (u13 G) all0 d7_4 rfl rfl rfl lr (by decide) all0 ?_
  rintro _ _ _ _ X1 rfl K1 _ _
  refine sk [.int 2, .ref pa1] rfl <| oc 8 (v := 1) X1 d7_7 rfl (by decide) <| o_iadd 9 (v := 3) X1 d7_8 rfl (by decide) ?_
  have f2 := F0.keep K1
  have f3 := F1.k0 K1
  have f4 := F2.k0 K1
  have f5 := F3.k0 K1
  refine mV 12 0 X1 f2 (rm_au151 G f2 f3 f4 f5) (u18 G) all0 d7_9 rfl rfl rfl lr (by decide) all0 ?_
  rintro _ _ _ _ X6 ⟨xa1_7, _, _, rfl, q10, q11, q12, _, q14, _, _, _⟩ _ _ _
  refine sk [.ref xa1_7] rfl <| oV 13 (l' := #[rr pa1, rr xa1_7, uu]) X6 d7_12 rfl rfl rfl <| oA 14 X6 d7_13 rfl rfl <| ob 16 (v := 46) X6 d7_14 rfl (by decide) <| mV 19 0 X6 q10 (rm_au41 G q10 q11 q12 q14 nk_pi2_46) (u13 G) all0 d7_16 rfl rfl rfl lr (by decide) all0 ?_
  rintro _ _ _ _ X18 rfl _ _ _
  refine sk [.int (-1)] rfl <| oT 20 (l' := #[rr pa1, rr xa1_7, ii (-1)]) X18 d7_19 rfl rfl <| oI 21 X18 d7_20 rfl rfl <| on 24 X18 d7_21 rfl ((if0 _ _).trans (tlt (by decide)).2.1) <| o_aconstNull 25 X18 d7_24 rfl <| og 35 X18 d7_25 (by decide) ?_
  exact oR X18 d7_35 rfl rfl rfl (by decide) (by decide) (fun _ CC => rfl)
theorem rm_au153 (G : GL l Z a0 zc fmt) (F0 : ex1 Z h0 pa1) (F1 : fd0 Z h0 pa1 (.int 0)) (F2 : fd1 Z h0 pa1 (.ref pa2)) (F3 : av1 Z h0 pa2 pk1 4 [.int pi100, .int pi1, .int pi101, .int pi102]) (pc_0 : ¬ pi102 = (47 : Int32)) (pc_1 : pi101 = (47 : Int32)) (pc_2 : pi102 = (46 : Int32)) : M7 l Z 6 4 9 115 #[.ref pa1] h0 n0 [] [] (Q8 Z  h0) := by
  refine mi B7 ef7 (hEW G) fun s X0 hsf0 n0le => ?_
  have := F0.l
  have := F3.l
  refine oA 1 X0 d7_0 rfl rfl <| oA 2 X0 d7_1 rfl rfl <| ob 4 (v := 47) X0 d7_2 rfl (by decide) <| mV 7 1 X0 F0 (rm_au146 G F0 F1 F2 F3 pc_0 pc_1) (u13 G) all0 d7_4 rfl rfl rfl lr (by decide) all0 ?_
  rintro _ _ _ _ X1 rfl K1 _ _
  refine sk [.int 2, .ref pa1] rfl <| oc 8 (v := 1) X1 d7_7 rfl (by decide) <| o_iadd 9 (v := 3) X1 d7_8 rfl (by decide) ?_
  have f2 := F0.keep K1
  have f3 := F1.k0 K1
  have f4 := F2.k0 K1
  have f5 := F3.k0 K1
  refine mV 12 0 X1 f2 (rm_au151 G f2 f3 f4 f5) (u18 G) all0 d7_9 rfl rfl rfl lr (by decide) all0 ?_
  rintro _ _ _ _ X6 ⟨xa1_7, _, _, rfl, q10, q11, q12, _, q14, q15, _, _⟩ _ _ _
  refine sk [.ref xa1_7] rfl <| oV 13 (l' := #[rr pa1, rr xa1_7, uu]) X6 d7_12 rfl rfl rfl <| oA 14 X6 d7_13 rfl rfl <| ob 16 (v := 46) X6 d7_14 rfl (by decide) <| mV 19 0 X6 q10 (rm_au45 G q10 q11 q12 q14 pc_2) (u13 G) all0 d7_16 rfl rfl rfl lr (by decide) all0 ?_
  rintro _ _ _ _ X18 rfl K18 _ _
  refine sk [i0] rfl <| oT 20 (l' := #[rr pa1, rr xa1_7, ii 0]) X18 d7_19 rfl rfl <| oI 21 X18 d7_20 rfl rfl <| oy 28 X18 d7_21 (by decide) ((if0 _ _).trans (flt (by decide)).2.1) <| oA 29 X18 d7_28 rfl rfl <| oI 30 X18 d7_29 rfl rfl <| oc 31 (v := 1) X18 d7_30 rfl (by decide) <| o_iadd 32 (v := 1) X18 d7_31 rfl (by decide) ?_
  have f19 := q10.keep K18
  have f20 := q11.k0 K18
  have f21 := q12.k0 K18
  have f22 := q14.k0 K18
  have f23 := q15.keep K18
  refine mV 35 0 X18 f19 (rm_au17 G f19 f20 f21 f22 f23) (u18 G) all0 d7_32 rfl rfl rfl lr (by decide) all0 ?_
  rintro _ _ _ _ X24 ⟨xa1_25, xa2_26, xk1_27, rfl, q28, q29, q30, q31, _⟩ _ _ _
  refine sk [.ref xa1_25] rfl ?_
  exact oR X24 d7_35 rfl rfl rfl (by decide) (by decide) (fun _ CC => ⟨xa1_25, xa2_26, xk1_27, rfl, q28, q29, q30, q31, by omega⟩)
theorem rm_au154 (G : GL l Z a0 zc fmt) (F0 : av1 Z h0 pa1 pk1 4 [.int pi1, .int pi2, .int pi3, .int pi4]) (pc_0 : pi4 = (47 : Int32)) : M13 l Z 1 0 0 13 #[.ref pa1, .int 47, .int 3] h0 n0 [] [] (Q21 Z  h0) := by
  refine mi B13 ef10 (hEW G) fun s X0 hsf0 n0le => ?_
  have := F0.l
  refine oI 1 X0 d13_0 rfl rfl <| mS 4 0 X0 (rm_au8 G (by decide) (by decide)) (u9 G) all0 d13_1 rfl rfl rfl lr (by decide) all0 ?_
  rintro _ _ _ _ X1 rfl K1 _ _
  refine sk [.int 1] rfl <| oy 9 X1 d13_4 (by decide) ((if0 _ _).trans (feq (by decide)).2) <| oI 10 X1 d13_9 rfl rfl <| oA 11 X1 d13_10 rfl rfl ?_
  have f2 := F0.k0 K1
  refine oL 12 X1 f2 d13_11 rfl <| oc 13 (v := 1) X1 d13_12 rfl (by decide) <| o_isub 14 (v := 3) X1 d13_13 rfl (by decide) <| mS 17 0 X1 (rm_au9 G (by decide)) (u10 G) all0 d13_14 rfl rfl rfl lr (by decide) all0 ?_
  rintro _ _ _ _ X3 rfl K3 _ _
  refine sk [.int 3] rfl <| oT 18 (l' := #[rr pa1, ii 47, ii 3, ii 3]) X3 d13_17 rfl rfl <| oI 19 X3 d13_18 rfl rfl <| on 22 X3 d13_19 rfl ((if0 _ _).trans (flt (by decide)).1) <| oA 23 X3 d13_22 rfl rfl <| oI 24 X3 d13_23 rfl rfl ?_
  have f4 := f2.k0 K3
  refine oB 25 (v := (.int pi4)) X3 f4 ⟨by decide, by decide⟩ rfl d13_24 rfl <| oI 26 X3 d13_25 rfl rfl <| o_i2b 27 (v := 47) X3 d13_26 rfl (by decide) <| oN 30 X3 d13_27 rfl (teq pc_0).2 <| oI 31 X3 d13_30 rfl rfl ?_
  exact o_iret X3 d13_31 rfl (by decide) (by decide) (fun _ CC => rfl)
theorem rm_au155 (G : GL l Z a0 zc fmt) (F0 : ex1 Z h0 pa1) (F1 : fd0 Z h0 pa1 (.int 0)) (F2 : fd1 Z h0 pa1 (.ref pa2)) (F3 : av1 Z h0 pa2 pk1 4 [.int pi1, .int pi2, .int pi3, .int pi4]) (pc_0 : pi4 = (47 : Int32)) : M11 l Z 2 0 0 28 #[.ref pa1, .int 47, .int 3] h0 n0 [] [] (Q21 Z  h0) := by
  refine mi B11 ef9 (hEW G) fun s X0 hsf0 n0le => ?_
  have := F0.l
  have := F3.l
  refine oA 1 X0 d11_0 rfl rfl <| mV 4 0 X0 F0 (rm_au7 G F1 (by decide)) (u8 G) all0 d11_1 rfl rfl rfl lr (by decide) all0 ?_
  rintro _ _ _ _ X1 rfl K1 _ _
  refine sk [.int 1] rfl <| on 7 X1 d11_4 rfl ((if0 _ _).trans (feq (by decide)).1) <| oA 8 X1 d11_7 rfl rfl ?_
  have f2 := F2.k0 K1
  refine oF 11 X1 (w33 G) Via.refl f2 d11_8 rfl ?_
  intro _ X4
  refine oI 12 X4 d11_11 rfl rfl <| oI 13 X4 d11_12 rfl rfl ?_
  have f5 := F3.k0 K1
  refine mS 16 0 X4 (rm_au154 G f5 pc_0) (u11 G) all0 d11_13 rfl rfl rfl lr (by decide) all0 ?_
  rintro _ _ _ _ X6 rfl _ _ _
  refine sk [.int 3] rfl <| og 28 X6 d11_16 (by decide) ?_
  exact o_iret X6 d11_28 rfl (by decide) (by decide) (fun _ CC => rfl)
theorem rm_au156 (G : GL l Z a0 zc fmt) (F0 : ex1 Z h0 pa1) (F1 : fd0 Z h0 pa1 (.int 0)) (F2 : fd1 Z h0 pa1 (.ref pa2)) (F3 : av1 Z h0 pa2 pk1 4 [.int pi1, .int pi2, .int pi3, .int pi4]) (pc_0 : pi4 = (47 : Int32)) : M8 l Z 3 0 0 42 #[.ref pa1, .int 47] h0 n0 [] [] (Q21 Z  h0) := by
  refine mi B8 ef6 (hEW G) fun s X0 hsf0 n0le => ?_
  have := F0.l
  have := F3.l
  refine oA 1 X0 d8_0 rfl rfl <| oI 2 X0 d8_1 rfl rfl <| oA 3 X0 d8_2 rfl rfl <| mV 6 2 X0 F0 (rm_au104 G F0 F1 F2 F3) (u7 G) all0 d8_3 rfl rfl rfl lr (by decide) all0 ?_
  rintro _ _ _ _ X1 rfl K1 _ _
  refine sk [.int 4, .int 47, .ref pa1] rfl <| oc 7 (v := 1) X1 d8_6 rfl (by decide) <| o_isub 8 (v := 3) X1 d8_7 rfl (by decide) ?_
  have f2 := F0.keep K1
  have f3 := F1.k0 K1
  have f4 := F2.k0 K1
  have f5 := F3.k0 K1
  refine mV 11 0 X1 f2 (rm_au155 G f2 f3 f4 f5 pc_0) (u12 G) all0 d8_8 rfl rfl rfl lr (by decide) all0 ?_
  rintro _ _ _ _ X6 rfl _ _ _
  refine sk [.int 3] rfl ?_
  exact o_iret X6 d8_11 rfl (by decide) (by decide) (fun _ CC => rfl)
theorem rm_au157 (G : GL l Z a0 zc fmt) (F0 : ex1 Z h0 pa1) (F1 : fd0 Z h0 pa1 (.int 0)) (F2 : fd1 Z h0 pa1 (.ref pa2)) (F3 : av1 Z h0 pa2 pk1 4 ps_pa2) (F4 : ex0 Z h0 pa2) : M17 l Z 2 2 4 29 #[.ref pa1, .int 4, .int 4] h0 n0 [] [] (Q8 Z  h0) := by
  refine mi B17 ef13 (hEW G) fun s X0 hsf0 n0le => ?_
  have := F0.l
  have := F3.l
  refine oA 1 X0 d17_0 rfl rfl <| mV 4 0 X0 F0 (rm_au104 G F0 F1 F2 F3) (u7 G) all0 d17_1 rfl rfl rfl lr (by decide) all0 ?_
  rintro _ _ _ _ X1 rfl K1 _ _
  refine sk [.int 4] rfl <| oT 5 (l' := #[rr pa1, ii 4, ii 4, ii 4, uu]) X1 d17_4 rfl rfl <| oI 6 X1 d17_5 rfl rfl <| oI 7 X1 d17_6 rfl rfl <| oI 8 X1 d17_7 rfl rfl <| mS 11 0 X1 (rm_au14 G (by decide) (by decide) (by decide)) (u15 G) all0 d17_8 rfl rfl rfl lr (by decide) all0 ?_
  rintro _ _ _ _ X2 rfl K2 _ _
  refine sk [] rfl <| oI 12 X2 d17_11 rfl rfl <| oy 22 X2 d17_12 (by decide) ((if0 _ _).trans (feq (by decide)).2) <| oI 23 X2 d17_22 rfl rfl <| oI 24 X2 d17_23 rfl rfl <| o_isub 25 (v := 0) X2 d17_24 rfl (by decide) <| oS 27 (l' := #[rr pa1, ii 4, ii 4, ii 4, ii 0]) X2 d17_25 rfl rfl <| oA 28 X2 d17_27 rfl rfl ?_
  have f3 := (F1.k0 K1).k0 K2
  have f4 := (F0.keep K1).keep K2
  refine mV 31 0 X2 f4 (rm_au7 G f3 (by decide)) (u8 G) all0 d17_28 rfl rfl rfl lr (by decide) all0 ?_
  rintro _ _ _ _ X5 rfl K5 _ _
  refine sk [.int 1] rfl <| on 34 X5 d17_31 rfl ((if0 _ _).trans (feq (by decide)).1) <| oA 35 X5 d17_34 rfl rfl ?_
  have f6 := ((F2.k0 K1).k0 K2).k0 K5
  refine oF 38 X5 (w33 G) Via.refl f6 d17_35 rfl ?_
  intro _ X8
  refine oI 39 X8 d17_38 rfl rfl <| oi 41 X8 d17_39 rfl rfl ?_
  have f9 := ((F4.keep K1).keep K2).keep K5
  refine mS 44 0 X8 (rm_au15 G f9 (by decide)) (u16 G) all0 d17_41 rfl rfl rfl lr (by decide) all0 ?_
  rintro _ _ _ _ X10 ⟨xa1_11, xa2_12, xk1_13, rfl, q14, q15, q16, q17, _⟩ _ _ _
  refine sk [.ref xa1_11] rfl <| og 57 X10 d17_44 (by decide) ?_
  exact oR X10 d17_57 rfl rfl rfl (by decide) (by decide) (fun _ CC => ⟨xa1_11, xa2_12, xk1_13, rfl, q14, q15, q16, q17, by omega⟩)
theorem rm_au158 (G : GL l Z a0 zc fmt) (F0 : ex1 Z h0 pa1) (F1 : fd0 Z h0 pa1 (.int 0)) (F2 : fd1 Z h0 pa1 (.ref pa2)) (F3 : av1 Z h0 pa2 pk1 4 ps_pa2) (F4 : ex0 Z h0 pa2) : M16 l Z 3 2 4 45 #[.ref pa1, .int 4] h0 n0 [] [] (Q8 Z  h0) := by
  refine mi B16 ef6 (hEW G) fun s X0 hsf0 n0le => ?_
  have := F0.l
  have := F3.l
  refine oA 1 X0 d16_0 rfl rfl <| oI 2 X0 d16_1 rfl rfl <| oA 3 X0 d16_2 rfl rfl <| mV 6 2 X0 F0 (rm_au104 G F0 F1 F2 F3) (u7 G) all0 d16_3 rfl rfl rfl lr (by decide) all0 ?_
  rintro _ _ _ _ X1 rfl K1 _ _
  refine sk [.int 4, .int 4, .ref pa1] rfl ?_
  have f2 := F0.keep K1
  have f3 := F1.k0 K1
  have f4 := F2.k0 K1
  have f5 := F3.k0 K1
  have f6 := F4.keep K1
  refine mV 9 0 X1 f2 (rm_au157 G f2 f3 f4 f5 f6) (u17 G) all0 d16_6 rfl rfl rfl lr (by decide) all0 ?_
  rintro _ _ _ _ X7 ⟨xa1_8, xa2_9, xk1_10, rfl, q11, q12, q13, q14, _⟩ _ _ _
  refine sk [.ref xa1_8] rfl ?_
  exact oR X7 d16_9 rfl rfl rfl (by decide) (by decide) (fun _ CC => ⟨xa1_8, xa2_9, xk1_10, rfl, q11, q12, q13, q14, by omega⟩)
theorem rm_au159 (G : GL l Z a0 zc fmt) (F0 : ex1 Z h0 pa1) (F1 : fd0 Z h0 pa1 (.int 0)) (F2 : fd1 Z h0 pa1 (.ref pa2)) (F3 : av1 Z h0 pa2 pk1 4 [.int pi100, .int pi1, .int pi2, .int pi101]) (F4 : ex0 Z h0 pa2) (pc_0 : pi101 = (47 : Int32)) : M7 l Z 4 2 4 58 #[.ref pa1] h0 n0 [] [] (Q10 Z  h0) := by
  refine mi B7 ef7 (hEW G) fun s X0 hsf0 n0le => ?_
  have := F0.l
  have := F3.l
  refine oA 1 X0 d7_0 rfl rfl <| oA 2 X0 d7_1 rfl rfl <| ob 4 (v := 47) X0 d7_2 rfl (by decide) <| mV 7 1 X0 F0 (rm_au156 G F0 F1 F2 F3 pc_0) (u13 G) all0 d7_4 rfl rfl rfl lr (by decide) all0 ?_
  rintro _ _ _ _ X1 rfl K1 _ _
  refine sk [.int 3, .ref pa1] rfl <| oc 8 (v := 1) X1 d7_7 rfl (by decide) <| o_iadd 9 (v := 4) X1 d7_8 rfl (by decide) ?_
  have f2 := F0.keep K1
  have f3 := F1.k0 K1
  have f4 := F2.k0 K1
  have f5 := F3.k0 K1
  have f6 := F4.keep K1
  refine mV 12 0 X1 f2 (rm_au158 G f2 f3 f4 f5 f6) (u18 G) all0 d7_9 rfl rfl rfl lr (by decide) all0 ?_
  rintro _ _ _ _ X7 ⟨xa1_8, _, _, rfl, q11, q12, q13, q14, _⟩ _ _ _
  refine sk [.ref xa1_8] rfl <| oV 13 (l' := #[rr pa1, rr xa1_8, uu]) X7 d7_12 rfl rfl rfl <| oA 14 X7 d7_13 rfl rfl <| ob 16 (v := 46) X7 d7_14 rfl (by decide) <| mV 19 0 X7 q11 (rm_au21 G q11 q12 q13 q14) (u13 G) all0 d7_16 rfl rfl rfl lr (by decide) all0 ?_
  rintro _ _ _ _ X16 rfl _ _ _
  refine sk [.int (-1)] rfl <| oT 20 (l' := #[rr pa1, rr xa1_8, ii (-1)]) X16 d7_19 rfl rfl <| oI 21 X16 d7_20 rfl rfl <| on 24 X16 d7_21 rfl ((if0 _ _).trans (tlt (by decide)).2.1) <| o_aconstNull 25 X16 d7_24 rfl <| og 35 X16 d7_25 (by decide) ?_
  exact oR X16 d7_35 rfl rfl rfl (by decide) (by decide) (fun _ CC => rfl)
def Q31 (Z : State) (b1 : Addr) (b2 : ClassId) (b3 b4 b5 b6 : Int32) (h0 : Heap) (v : Option Value) (h : Heap) (vm : Vm) : Prop := v = some (.int 5) ∧ av1 Z h b1 b2 5 [.int 47, .int (b3.toInt8.toInt32), .int (b4.toInt8.toInt32), .int (b5.toInt8.toInt32), .int (b6.toInt8.toInt32)] ∧ ex0 Z h b1
theorem rm_au160 (G : GL l Z a0 zc fmt) (F0 : av0 Z h0 pa1 pk1 5 [.int 47, .int pi1, .int pi2, .int pi3, .int pi4]) (F1 : av1 Z h0 pa2 pk2 5 [i0, i0, i0, i0, i0]) (F2 : ex0 Z h0 pa2) (rg_pi1 : ¬ pi1 < 0 ∧ ¬ (255 : Int32) < pi1) (rg_pi2 : ¬ pi2 < 0 ∧ ¬ (255 : Int32) < pi2) (rg_pi3 : ¬ pi3 < 0 ∧ ¬ (255 : Int32) < pi3) (rg_pi4 : ¬ pi4 < 0 ∧ ¬ (255 : Int32) < pi4) (ne : NE pa1 pa2 ∧ n0 ≤ pa2) : M5 l Z 0 0 0 0 #[.ref pa1, i0, .ref pa2, i0, .int 5] h0 n0 [pa2] [pa2] (Q31 Z pa2 pk2 pi1 pi2 pi3 pi4 h0) := by
  refine mi B5 ef5 (hEW G) fun s X0 hsf0 n0le => ?_
  have := F0.l
  have := F1.l
  have sf_pa2 := hsf0 pa2 (by simp)
  refine oc 1 (v := 0) X0 d5_0 rfl (by decide) <| oS 3 (l' := #[rr pa1, ii 0, rr pa2, ii 0, ii 5, ii 0, uu]) X0 d5_1 rfl rfl <| oi 5 X0 d5_3 rfl rfl <| oi 7 X0 d5_5 rfl rfl <| oN 10 X0 d5_7 rfl (tlt (by decide)).2.1 <| oA 11 X0 d5_10 rfl rfl <| oI 12 X0 d5_11 rfl rfl <| oC 13 (v := (.int 47)) X0 F0 ⟨by decide, by decide⟩ rfl d5_12 rfl <| oS 15 (l' := #[rr pa1, ii 0, rr pa2, ii 0, ii 5, ii 0, ii 47]) X0 d5_13 rfl rfl <| oi 17 X0 d5_15 rfl rfl <| o_sipush 20 (v := 255) X0 d5_17 rfl (by decide) <| oY 26 X0 d5_20 (by decide) (flt (by decide)).2.2.2 ?_
  refine oA 27 X0 d5_26 rfl rfl <| oI 28 X0 d5_27 rfl rfl <| oi 30 X0 d5_28 rfl rfl <| o_i2b 31 (v := 47) X0 d5_30 rfl (by decide) <| sB 32 0 47 X0 F1 (by decide) (lb rfl) (by decide) d5_31 rfl (by omega) (Or.inl (by simp)) sf_pa2 ?_
  rintro _ _ X1 ⟨_, _, W1⟩ C1 V1
  have := W1.size
  have V2 := V1.as [.int 47, i0, i0, i0, i0] rfl
  refine oJ 35 1 #[rr pa1, ii 1, rr pa2, ii 0, ii 5, ii 0, ii 47] X1 d5_32 rfl rfl (by decide) rfl <| oJ 38 1 #[rr pa1, ii 1, rr pa2, ii 1, ii 5, ii 0, ii 47] X1 d5_35 rfl rfl (by decide) rfl <| oJ 41 1 #[rr pa1, ii 1, rr pa2, ii 1, ii 5, ii 1, ii 47] X1 d5_38 rfl rfl (by decide) rfl <| og 3 X1 d5_41 (by decide) <| oi 5 X1 d5_3 rfl rfl <| oi 7 X1 d5_5 rfl rfl <| oN 10 X1 d5_7 rfl (tlt (by decide)).2.1 <| oA 11 X1 d5_10 rfl rfl <| oI 12 X1 d5_11 rfl rfl ?_
  have f3 := F0.oth W1 (by omega)
  refine oC 13 (v := (.int pi1)) X1 f3 ⟨by decide, by decide⟩ rfl d5_12 rfl <| oS 15 (l' := #[rr pa1, ii 1, rr pa2, ii 1, ii 5, ii 1, ii pi1]) X1 d5_13 rfl rfl <| oi 17 X1 d5_15 rfl rfl <| o_sipush 20 (v := 255) X1 d5_17 rfl (by decide) <| oY 26 X1 d5_20 (by decide) (flt rg_pi1.2).2.2.2 <| oA 27 X1 d5_26 rfl rfl <| oI 28 X1 d5_27 rfl rfl <| oi 30 X1 d5_28 rfl rfl <| o_i2b 31 (v := (pi1.toInt8.toInt32)) X1 d5_30 rfl rfl ?_
  have f5 := C1.safe (own_lt (by omega)) sf_pa2
  refine sB 32 1 (pi1.toInt8.toInt32) X1 V2 (by decide) (lb rfl) (own_narB _) d5_31 rfl (by omega) (Or.inl (by simp)) f5 ?_
  rintro _ _ X4 ⟨_, _, W4⟩ C4 V4
  have := W4.size
  have V6 := V4.as [.int 47, .int (pi1.toInt8.toInt32), i0, i0, i0] rfl
  refine oJ 35 2 #[rr pa1, ii 2, rr pa2, ii 1, ii 5, ii 1, ii pi1] X4 d5_32 rfl rfl (by decide) rfl <| oJ 38 2 #[rr pa1, ii 2, rr pa2, ii 2, ii 5, ii 1, ii pi1] X4 d5_35 rfl rfl (by decide) rfl <| oJ 41 2 #[rr pa1, ii 2, rr pa2, ii 2, ii 5, ii 2, ii pi1] X4 d5_38 rfl rfl (by decide) rfl <| og 3 X4 d5_41 (by decide) <| oi 5 X4 d5_3 rfl rfl <| oi 7 X4 d5_5 rfl rfl <| oN 10 X4 d5_7 rfl (tlt (by decide)).2.1 <| oA 11 X4 d5_10 rfl rfl <| oI 12 X4 d5_11 rfl rfl ?_
  have f7 := f3.oth W4 (by omega)
  refine oC 13 (v := (.int pi2)) X4 f7 ⟨by decide, by decide⟩ rfl d5_12 rfl <| oS 15 (l' := #[rr pa1, ii 2, rr pa2, ii 2, ii 5, ii 2, ii pi2]) X4 d5_13 rfl rfl <| oi 17 X4 d5_15 rfl rfl <| o_sipush 20 (v := 255) X4 d5_17 rfl (by decide) <| oY 26 X4 d5_20 (by decide) (flt rg_pi2.2).2.2.2 <| oA 27 X4 d5_26 rfl rfl <| oI 28 X4 d5_27 rfl rfl <| oi 30 X4 d5_28 rfl rfl <| o_i2b 31 (v := (pi2.toInt8.toInt32)) X4 d5_30 rfl rfl ?_
  have f9 := C4.safe (own_lt (by omega)) f5
  refine sB 32 2 (pi2.toInt8.toInt32) X4 V6 (by decide) (lb rfl) (own_narB _) d5_31 rfl (by omega) (Or.inl (by simp)) f9 ?_
  rintro _ _ X8 ⟨_, _, W8⟩ C8 V8
  have := W8.size
  have V10 := V8.as [.int 47, .int (pi1.toInt8.toInt32), .int (pi2.toInt8.toInt32), i0, i0] rfl
  refine oJ 35 3 #[rr pa1, ii 3, rr pa2, ii 2, ii 5, ii 2, ii pi2] X8 d5_32 rfl rfl (by decide) rfl <| oJ 38 3 #[rr pa1, ii 3, rr pa2, ii 3, ii 5, ii 2, ii pi2] X8 d5_35 rfl rfl (by decide) rfl <| oJ 41 3 #[rr pa1, ii 3, rr pa2, ii 3, ii 5, ii 3, ii pi2] X8 d5_38 rfl rfl (by decide) rfl <| og 3 X8 d5_41 (by decide) <| oi 5 X8 d5_3 rfl rfl <| oi 7 X8 d5_5 rfl rfl <| oN 10 X8 d5_7 rfl (tlt (by decide)).2.1 <| oA 11 X8 d5_10 rfl rfl <| oI 12 X8 d5_11 rfl rfl ?_
  have f11 := f7.oth W8 (by omega)
  refine oC 13 (v := (.int pi3)) X8 f11 ⟨by decide, by decide⟩ rfl d5_12 rfl <| oS 15 (l' := #[rr pa1, ii 3, rr pa2, ii 3, ii 5, ii 3, ii pi3]) X8 d5_13 rfl rfl <| oi 17 X8 d5_15 rfl rfl <| o_sipush 20 (v := 255) X8 d5_17 rfl (by decide) <| oY 26 X8 d5_20 (by decide) (flt rg_pi3.2).2.2.2 <| oA 27 X8 d5_26 rfl rfl <| oI 28 X8 d5_27 rfl rfl <| oi 30 X8 d5_28 rfl rfl <| o_i2b 31 (v := (pi3.toInt8.toInt32)) X8 d5_30 rfl rfl ?_
  have f13 := C8.safe (own_lt (by omega)) f9
  refine sB 32 3 (pi3.toInt8.toInt32) X8 V10 (by decide) (lb rfl) (own_narB _) d5_31 rfl (by omega) (Or.inl (by simp)) f13 ?_
  rintro _ _ X12 ⟨_, _, W12⟩ C12 V12
  have := W12.size
  have V14 := V12.as [.int 47, .int (pi1.toInt8.toInt32), .int (pi2.toInt8.toInt32), .int (pi3.toInt8.toInt32), i0] rfl
  refine oJ 35 4 #[rr pa1, ii 4, rr pa2, ii 3, ii 5, ii 3, ii pi3] X12 d5_32 rfl rfl (by decide) rfl <| oJ 38 4 #[rr pa1, ii 4, rr pa2, ii 4, ii 5, ii 3, ii pi3] X12 d5_35 rfl rfl (by decide) rfl <| oJ 41 4 #[rr pa1, ii 4, rr pa2, ii 4, ii 5, ii 4, ii pi3] X12 d5_38 rfl rfl (by decide) rfl <| og 3 X12 d5_41 (by decide) <| oi 5 X12 d5_3 rfl rfl <| oi 7 X12 d5_5 rfl rfl <| oN 10 X12 d5_7 rfl (tlt (by decide)).2.1 <| oA 11 X12 d5_10 rfl rfl <| oI 12 X12 d5_11 rfl rfl ?_
  have f15 := f11.oth W12 (by omega)
  refine oC 13 (v := (.int pi4)) X12 f15 ⟨by decide, by decide⟩ rfl d5_12 rfl <| oS 15 (l' := #[rr pa1, ii 4, rr pa2, ii 4, ii 5, ii 4, ii pi4]) X12 d5_13 rfl rfl <| oi 17 X12 d5_15 rfl rfl <| o_sipush 20 (v := 255) X12 d5_17 rfl (by decide) <| oY 26 X12 d5_20 (by decide) (flt rg_pi4.2).2.2.2 <| oA 27 X12 d5_26 rfl rfl <| oI 28 X12 d5_27 rfl rfl <| oi 30 X12 d5_28 rfl rfl <| o_i2b 31 (v := (pi4.toInt8.toInt32)) X12 d5_30 rfl rfl ?_
  have f17 := C12.safe (own_lt (by omega)) f13
  refine sB 32 4 (pi4.toInt8.toInt32) X12 V14 (by decide) (lb rfl) (own_narB _) d5_31 rfl (by omega) (Or.inl (by simp)) f17 ?_
  rintro _ _ X16 ⟨_, _, W16⟩ _ V16
  have := W16.size
  have V18 := V16.as [.int 47, .int (pi1.toInt8.toInt32), .int (pi2.toInt8.toInt32), .int (pi3.toInt8.toInt32), .int (pi4.toInt8.toInt32)] rfl
  refine oJ 35 5 #[rr pa1, ii 5, rr pa2, ii 4, ii 5, ii 4, ii pi4] X16 d5_32 rfl rfl (by decide) rfl <| oJ 38 5 #[rr pa1, ii 5, rr pa2, ii 5, ii 5, ii 4, ii pi4] X16 d5_35 rfl rfl (by decide) rfl <| oJ 41 5 #[rr pa1, ii 5, rr pa2, ii 5, ii 5, ii 5, ii pi4] X16 d5_38 rfl rfl (by decide) rfl <| og 3 X16 d5_41 (by decide) <| oi 5 X16 d5_3 rfl rfl <| oi 7 X16 d5_5 rfl rfl <| oY 44 X16 d5_7 (by decide) (flt (by decide)).2.1 <| oi 46 X16 d5_44 rfl rfl ?_
  have f19 := ((((F2.wr W1).wr W4).wr W8).wr W12).wr W16
  exact o_iret X16 d5_46 rfl (by decide) (by decide) (fun _ CC => ⟨rfl, V18, f19⟩)
def Q32 (Z : State) (b1 b2 b3 b4 : Int32) (h0 : Heap) (v : Option Value) (h : Heap) (vm : Vm) : Prop := ∃ (xa1 : Addr) (xk1 : ClassId), v = some (.ref xa1) ∧ av1 Z h xa1 xk1 5 [.int 47, .int (b1.toInt8.toInt32), .int (b2.toInt8.toInt32), .int (b3.toInt8.toInt32), .int (b4.toInt8.toInt32)] ∧ ex0 Z h xa1 ∧ Safe Z EL0 vm h xa1 ∧ h0.size ≤ xa1 ∧ h.size > xa1
theorem rm_au161 (G : GL l Z a0 zc fmt) (F0 : av0 Z h0 pa1 pk1 5 [.int 47, .int pi1, .int pi2, .int pi3, .int pi4]) (rg_pi1 : ¬ pi1 < 0 ∧ ¬ (255 : Int32) < pi1) (rg_pi2 : ¬ pi2 < 0 ∧ ¬ (255 : Int32) < pi2) (rg_pi3 : ¬ pi3 < 0 ∧ ¬ (255 : Int32) < pi3) (rg_pi4 : ¬ pi4 < 0 ∧ ¬ (255 : Int32) < pi4) : M4 l Z 1 1 5 18 #[.ref pa1, i0, .int 5] h0 n0 [] [] (Q32 Z pi1 pi2 pi3 pi4 h0) := by
  refine mi B4 ef4 (hEW G) fun s X0 hsf0 n0le => ?_
  have l1 := F0.l
  refine oI 1 X0 d4_0 rfl rfl <| nP (aty := .byte) 3 5 X0 (w24 G) d4_1 rfl (by decide) had_byte ?_
  intro _ h1 b1 k1 X1 _ l1 E1 V1 A1 _ S1
  have V2 : av1 Z h1 b1 k1 5 [i0, i0, i0, i0, i0] := V1.pad (pad_rep [] (.int (0 : Int32)) 5)
  refine oV 4 (l' := #[rr pa1, ii 0, ii 5, rr b1, uu, uu]) X1 d4_3 rfl rfl rfl <| oA 5 X1 d4_4 rfl rfl <| oI 6 X1 d4_5 rfl rfl <| oA 7 X1 d4_6 rfl rfl <| oc 8 (v := 0) X1 d4_7 rfl (by decide) <| oI 9 X1 d4_8 rfl rfl ?_
  have f3 := F0.ext E1
  refine mS 12 0 X1 (rm_au160 G f3 V2 A1 rg_pi1 rg_pi2 rg_pi3 rg_pi4 (by omega)) (u1 G) (sS (by omega) S1 all0) d4_9 rfl rfl rfl lr (by decide) (aR (by omega) all0) ?_
  rintro _ _ _ _ X4 ⟨rfl, q5, q6⟩ _ _ C4
  refine sk [.int 5] rfl <| oS 14 (l' := #[rr pa1, ii 0, ii 5, rr b1, ii 5, uu]) X4 d4_12 rfl rfl <| oi 16 X4 d4_14 rfl rfl <| oI 17 X4 d4_16 rfl rfl <| oY 57 X4 d4_17 (by decide) (teq (by decide)).1 <| oA 58 X4 d4_57 rfl rfl ?_
  have f7 := C4.safe (own_lt (by omega)) S1
  exact oR X4 d4_58 rfl rfl rfl (by decide) (by decide) (fun _ CC => ⟨b1, k1, rfl, q5, q6, (CC.safe (own_lt (by omega)) f7), by omega⟩)
theorem rm_au162 (G : GL l Z a0 zc fmt) (F0 : av1 Z h0 pa1 pk1 5 ps_pa1) : M6 l Z 0 0 0 0 #[.ref pa1, .int 5] h0 n0 [] [] (Q3 Z  h0) := by
  refine mi B6 ef6 (hEW G) fun s X0 hsf0 n0le => ?_
  have := F0.l
  refine oI 1 X0 d6_0 rfl rfl <| oA 2 X0 d6_1 rfl rfl <| oL 3 X0 F0 d6_2 rfl <| o_isub 4 (v := 0) X0 d6_3 rfl (by decide) <| ob 6 (v := 31) X0 d6_4 rfl (by decide) <| o_iushr 7 (v := 0) X0 d6_6 rfl (by decide) <| o_i2b 8 (v := 0) X0 d6_7 rfl (by decide) ?_
  exact o_nret (y := (0 : Int32)) (t := .byte) X0 d6_8 rfl (by decide) (by simp) (by decide) (by decide) (fun _ CC => rfl)
def Q33 (Z : State) (b1 : Addr) (b2 b3 b4 b5 : Int32) (h0 : Heap) (v : Option Value) (h : Heap) (vm : Vm) : Prop := ∃ (xa1 : Addr) (xk1 : ClassId), v = none ∧ ex1 Z h b1 ∧ fd0 Z h b1 (.int 0) ∧ fd1 Z h b1 (.ref xa1) ∧ av1 Z h xa1 xk1 5 [.int 47, .int (b2.toInt8.toInt32), .int (b3.toInt8.toInt32), .int (b4.toInt8.toInt32), .int (b5.toInt8.toInt32)] ∧ ex0 Z h xa1 ∧ Safe Z EL0 vm h xa1 ∧ h0.size ≤ xa1 ∧ h.size > xa1
theorem rm_au163 (G : GL l Z a0 zc fmt) (F0 : ex1 Z h0 pa1) (F1 : fd0 Z h0 pa1 (.int 0)) (F2 : fd1 Z h0 pa1 .null) (F3 : av0 Z h0 pa2 pk1 5 [.int 47, .int pi1, .int pi2, .int pi3, .int pi4]) (rg_pi1 : ¬ pi1 < 0 ∧ ¬ (255 : Int32) < pi1) (rg_pi2 : ¬ pi2 < 0 ∧ ¬ (255 : Int32) < pi2) (rg_pi3 : ¬ pi3 < 0 ∧ ¬ (255 : Int32) < pi3) (rg_pi4 : ¬ pi4 < 0 ∧ ¬ (255 : Int32) < pi4) (ne : NE pa1 pa2 ∧ n0 ≤ pa1) : M3 l Z 2 1 5 35 #[.ref pa1, .ref pa2, i0, .int 5, .null] h0 n0 [pa1] [pa1] (Q33 Z pa1 pi1 pi2 pi3 pi4 h0) := by
  refine mi B3 ef3 (hEW G) fun s X0 hsf0 n0le => ?_
  have := F0.l
  have := F3.l
  have sf_pa1 := hsf0 pa1 (by simp)
  refine oA 1 X0 d3_0 rfl rfl <| o_initO 4 (W := 0) X0 (w16 G) (w17 G) (w18 G) rfl (by decide) (Nat.le_of_eq rfl) (by decide) d3_1 rfl ?_
  intro _ X2
  refine oI 5 X2 d3_4 rfl rfl <| oy 27 X2 d3_5 (by decide) ((if0 _ _).trans (feq (by decide)).2) <| oG 30 X2 (w19 G) Via.refl ((sg1 G).ext X2.old.2) d3_27 rfl ?_
  intro _ X4
  refine on 33 X4 d3_30 rfl ((if0 _ _).trans (feq (hzc G)).1) <| oA 34 X4 d3_33 rfl rfl <| oI 35 X4 d3_34 rfl rfl <| oI 36 X4 d3_35 rfl rfl <| mS 39 0 X4 (rm_au161 G F3 rg_pi1 rg_pi2 rg_pi3 rg_pi4) (u2 G) all0 d3_36 rfl rfl rfl lr (by decide) all0 ?_
  rintro _ _ _ _ X5 ⟨xa1_6, xk1_7, rfl, q8, q9, q10, _⟩ K5 _ C5
  refine sk [.ref xa1_6] rfl <| oU 41 (l' := #[rr pa1, rr pa2, ii 0, ii 5, .val .null, rr xa1_6]) X5 d3_39 rfl rfl rfl <| oA 42 X5 d3_41 rfl rfl <| oa 44 X5 d3_42 rfl rfl <| oI 45 X5 d3_44 rfl rfl <| mS 48 1 X5 (rm_au162 G q8) (u3 G) all0 d3_45 rfl rfl rfl lr (by decide) all0 ?_
  rintro _ _ _ _ X12 rfl K12 _ C12
  refine sk [i0, .ref pa1] rfl ?_
  have f13 := (F1.k0 K5).k0 K12
  have f14 := (F0.keep K5).keep K12
  have f16 := C12.safe (own_lt (by omega)) (C5.safe (own_lt (by omega)) sf_pa1)
  refine oP 51 (v' := (.int 0)) X12 (w31 G) Via.refl f13 f14 (Or.inr ⟨(w32 G), rfl, rfl⟩) (w7 G) fd_0 rfl rfl d3_48 rfl (by omega) (Or.inl (by simp)) f16 ?_
  intro _ _ X15 W15 C15
  have := W15.size
  have f17 := f13.same W15
  refine oA 52 X15 d3_51 rfl rfl <| oa 54 X15 d3_52 rfl rfl ?_
  have f18 := ((F2.k0 K5).k0 K12).other W15 (Or.inr (sn0 G))
  have f19 := f14.wr W15
  have f21 := C15.safe (own_lt (by omega)) f16
  refine oP 57 (v' := (.ref xa1_6)) X15 (w33 G) Via.refl f18 f19 (Or.inr ⟨(w34 G), rfl, rfl⟩) (w7 G) fd_1 rfl rfl d3_54 rfl (by omega) (Or.inl (by simp)) f21 ?_
  intro _ _ X20 W20 C20
  have := W20.size
  have f22 := f18.same W20
  have f23 := f19.wr W20
  have f24 := f17.other W20 (Or.inr (sn1 G))
  have f25 := ((q8.k0 K12).oth W15 (by omega)).oth W20 (by omega)
  have f26 := ((q9.keep K12).wr W15).wr W20
  have f27 := C20.safe (own_lt (by omega)) (C15.safe (own_lt (by omega)) (C12.safe (own_lt (by omega)) q10))
  exact oz X20 d3_57 rfl (by decide) (by decide) (fun _ CC => ⟨xa1_6, xk1_7, rfl, f23, f24, f22, f25, f26, (CC.safe (own_lt (by omega)) f27), by omega⟩)
theorem rm_au164 (G : GL l Z a0 zc fmt) (F0 : ex1 Z h0 pa1) (F1 : fd0 Z h0 pa1 (.int 0)) (F2 : fd1 Z h0 pa1 .null) (F3 : av0 Z h0 pa2 pk1 5 [.int 47, .int pi1, .int pi2, .int pi3, .int pi4]) (rg_pi1 : ¬ pi1 < 0 ∧ ¬ (255 : Int32) < pi1) (rg_pi2 : ¬ pi2 < 0 ∧ ¬ (255 : Int32) < pi2) (rg_pi3 : ¬ pi3 < 0 ∧ ¬ (255 : Int32) < pi3) (rg_pi4 : ¬ pi4 < 0 ∧ ¬ (255 : Int32) < pi4) (ne : NE pa1 pa2 ∧ n0 ≤ pa1) : M2 l Z 3 1 5 52 #[.ref pa1, .ref pa2] h0 n0 [pa1] [pa1] (Q33 Z pa1 pi1 pi2 pi3 pi4 h0) := by
  refine mi B2 ef2 (hEW G) fun s X0 hsf0 n0le => ?_
  have := F0.l
  have := F3.l
  have sf_pa1 := hsf0 pa1 (by simp)
  refine oA 1 X0 d2_0 rfl rfl <| oA 2 X0 d2_1 rfl rfl <| oc 3 (v := 0) X0 d2_2 rfl (by decide) <| oA 4 X0 d2_3 rfl rfl <| oL 5 X0 F3 d2_4 rfl <| o_aconstNull 6 X0 d2_5 rfl <| mP 9 0 X0 (rm_au163 G F0 F1 F2 F3 rg_pi1 rg_pi2 rg_pi3 rg_pi4 (by omega)) (u4 G) (sS (by omega) sf_pa1 all0) d2_6 rfl rfl rfl lr (by decide) (aI (by omega) (by simp) all0) ?_
  rintro _ _ _ _ X1 ⟨xa1_2, xk1_3, rfl, q4, q5, q6, q7, q8, q9, _⟩ _ _ _
  refine sk [] rfl ?_
  exact oz X1 d2_9 rfl (by decide) (by decide) (fun _ CC => ⟨xa1_2, xk1_3, rfl, q4, q5, q6, q7, q8, (CC.safe (own_lt (by omega)) q9), by omega⟩)
def Q34 (Z : State) (h0 : Heap) (v : Option Value) (h : Heap) (vm : Vm) : Prop := v = some (.int 5)
theorem rm_au165 (G : GL l Z a0 zc fmt) (F0 : ex1 Z h0 pa1) (F1 : fd0 Z h0 pa1 (.int 0)) (F2 : fd1 Z h0 pa1 (.ref pa2)) (F3 : av1 Z h0 pa2 pk1 5 ps_pa2) : M9 l Z 1 0 0 13 #[.ref pa1] h0 n0 [] [] (Q34 Z  h0) := by
  refine mi B9 ef8 (hEW G) fun s X0 hsf0 n0le => ?_
  have := F0.l
  have := F3.l
  refine oA 1 X0 d9_0 rfl rfl <| oF 4 X0 (w33 G) Via.refl F2 d9_1 rfl ?_
  intro _ X2
  refine oL 5 X2 F3 d9_4 rfl <| oA 6 X2 d9_5 rfl rfl <| mV 9 1 X2 F0 (rm_au5 G F1) (u6 G) all0 d9_6 rfl rfl rfl lr (by decide) all0 ?_
  rintro _ _ _ _ X3 rfl _ _ _
  refine sk [i0, .int 5] rfl <| o_ishr 10 (v := 5) X3 d9_9 rfl (by decide) ?_
  exact o_iret X3 d9_10 rfl (by decide) (by decide) (fun _ CC => rfl)
theorem rm_au166 (G : GL l Z a0 zc fmt) (F0 : av1 Z h0 pa1 pk1 5 [.int pi1, .int pi2, .int pi3, .int pi4, .int pi5]) (nk_pi2_47 : ¬ pi2 = (47 : Int32)) (nk_pi3_47 : ¬ pi3 = (47 : Int32)) (nk_pi4_47 : ¬ pi4 = (47 : Int32)) (nk_pi5_47 : ¬ pi5 = (47 : Int32)) (pc_0 : pi1 = (47 : Int32)) : M13 l Z 1 0 0 13 #[.ref pa1, .int 47, .int 4] h0 n0 [] [] (Q3 Z  h0) := by
  refine mi B13 ef10 (hEW G) fun s X0 hsf0 n0le => ?_
  have := F0.l
  refine oI 1 X0 d13_0 rfl rfl <| mS 4 0 X0 (rm_au8 G (by decide) (by decide)) (u9 G) all0 d13_1 rfl rfl rfl lr (by decide) all0 ?_
  rintro _ _ _ _ X1 rfl K1 _ _
  refine sk [.int 1] rfl <| oy 9 X1 d13_4 (by decide) ((if0 _ _).trans (feq (by decide)).2) <| oI 10 X1 d13_9 rfl rfl <| oA 11 X1 d13_10 rfl rfl ?_
  have f2 := F0.k0 K1
  refine oL 12 X1 f2 d13_11 rfl <| oc 13 (v := 1) X1 d13_12 rfl (by decide) <| o_isub 14 (v := 4) X1 d13_13 rfl (by decide) <| mS 17 0 X1 (rm_au9 G (by decide)) (u10 G) all0 d13_14 rfl rfl rfl lr (by decide) all0 ?_
  rintro _ _ _ _ X3 rfl K3 _ _
  refine sk [.int 4] rfl <| oT 18 (l' := #[rr pa1, ii 47, ii 4, ii 4]) X3 d13_17 rfl rfl <| oI 19 X3 d13_18 rfl rfl <| on 22 X3 d13_19 rfl ((if0 _ _).trans (flt (by decide)).1) <| oA 23 X3 d13_22 rfl rfl <| oI 24 X3 d13_23 rfl rfl ?_
  have f4 := f2.k0 K3
  refine oB 25 (v := (.int pi5)) X3 f4 ⟨by decide, by decide⟩ rfl d13_24 rfl <| oI 26 X3 d13_25 rfl rfl <| o_i2b 27 (v := 47) X3 d13_26 rfl (by decide) <| oY 32 X3 d13_27 (by decide) (feq nk_pi5_47).2 <| oJ 35 3 #[rr pa1, ii 47, ii 4, ii 3] X3 d13_32 rfl rfl (by decide) rfl <| og 18 X3 d13_35 (by decide) <| oI 19 X3 d13_18 rfl rfl <| on 22 X3 d13_19 rfl ((if0 _ _).trans (flt (by decide)).1) <| oA 23 X3 d13_22 rfl rfl <| oI 24 X3 d13_23 rfl rfl <| oB 25 (v := (.int pi4)) X3 f4 ⟨by decide, by decide⟩ rfl d13_24 rfl <| oI 26 X3 d13_25 rfl rfl ?_
  refine o_i2b 27 (v := 47) X3 d13_26 rfl (by decide) <| oY 32 X3 d13_27 (by decide) (feq nk_pi4_47).2 <| oJ 35 2 #[rr pa1, ii 47, ii 4, ii 2] X3 d13_32 rfl rfl (by decide) rfl <| og 18 X3 d13_35 (by decide) <| oI 19 X3 d13_18 rfl rfl <| on 22 X3 d13_19 rfl ((if0 _ _).trans (flt (by decide)).1) <| oA 23 X3 d13_22 rfl rfl <| oI 24 X3 d13_23 rfl rfl <| oB 25 (v := (.int pi3)) X3 f4 ⟨by decide, by decide⟩ rfl d13_24 rfl <| oI 26 X3 d13_25 rfl rfl <| o_i2b 27 (v := 47) X3 d13_26 rfl (by decide) <| oY 32 X3 d13_27 (by decide) (feq nk_pi3_47).2 ?_
  refine oJ 35 1 #[rr pa1, ii 47, ii 4, ii 1] X3 d13_32 rfl rfl (by decide) rfl <| og 18 X3 d13_35 (by decide) <| oI 19 X3 d13_18 rfl rfl <| on 22 X3 d13_19 rfl ((if0 _ _).trans (flt (by decide)).1) <| oA 23 X3 d13_22 rfl rfl <| oI 24 X3 d13_23 rfl rfl <| oB 25 (v := (.int pi2)) X3 f4 ⟨by decide, by decide⟩ rfl d13_24 rfl <| oI 26 X3 d13_25 rfl rfl <| o_i2b 27 (v := 47) X3 d13_26 rfl (by decide) <| oY 32 X3 d13_27 (by decide) (feq nk_pi2_47).2 <| oJ 35 0 #[rr pa1, ii 47, ii 4, ii 0] X3 d13_32 rfl rfl (by decide) rfl <| og 18 X3 d13_35 (by decide) ?_
  refine oI 19 X3 d13_18 rfl rfl <| on 22 X3 d13_19 rfl ((if0 _ _).trans (flt (by decide)).1) <| oA 23 X3 d13_22 rfl rfl <| oI 24 X3 d13_23 rfl rfl <| oB 25 (v := (.int pi1)) X3 f4 ⟨by decide, by decide⟩ rfl d13_24 rfl <| oI 26 X3 d13_25 rfl rfl <| o_i2b 27 (v := 47) X3 d13_26 rfl (by decide) <| oN 30 X3 d13_27 rfl (teq pc_0).2 <| oI 31 X3 d13_30 rfl rfl ?_
  exact o_iret X3 d13_31 rfl (by decide) (by decide) (fun _ CC => rfl)
theorem rm_au167 (G : GL l Z a0 zc fmt) (F0 : ex1 Z h0 pa1) (F1 : fd0 Z h0 pa1 (.int 0)) (F2 : fd1 Z h0 pa1 (.ref pa2)) (F3 : av1 Z h0 pa2 pk1 5 [.int pi1, .int pi2, .int pi3, .int pi4, .int pi5]) (nk_pi2_47 : ¬ pi2 = (47 : Int32)) (nk_pi3_47 : ¬ pi3 = (47 : Int32)) (nk_pi4_47 : ¬ pi4 = (47 : Int32)) (nk_pi5_47 : ¬ pi5 = (47 : Int32)) (pc_0 : pi1 = (47 : Int32)) : M11 l Z 2 0 0 28 #[.ref pa1, .int 47, .int 4] h0 n0 [] [] (Q3 Z  h0) := by
  refine mi B11 ef9 (hEW G) fun s X0 hsf0 n0le => ?_
  have := F0.l
  have := F3.l
  refine oA 1 X0 d11_0 rfl rfl <| mV 4 0 X0 F0 (rm_au7 G F1 (by decide)) (u8 G) all0 d11_1 rfl rfl rfl lr (by decide) all0 ?_
  rintro _ _ _ _ X1 rfl K1 _ _
  refine sk [.int 1] rfl <| on 7 X1 d11_4 rfl ((if0 _ _).trans (feq (by decide)).1) <| oA 8 X1 d11_7 rfl rfl ?_
  have f2 := F2.k0 K1
  refine oF 11 X1 (w33 G) Via.refl f2 d11_8 rfl ?_
  intro _ X4
  refine oI 12 X4 d11_11 rfl rfl <| oI 13 X4 d11_12 rfl rfl ?_
  have f5 := F3.k0 K1
  refine mS 16 0 X4 (rm_au166 G f5 nk_pi2_47 nk_pi3_47 nk_pi4_47 nk_pi5_47 pc_0) (u11 G) all0 d11_13 rfl rfl rfl lr (by decide) all0 ?_
  rintro _ _ _ _ X6 rfl _ _ _
  refine sk [i0] rfl <| og 28 X6 d11_16 (by decide) ?_
  exact o_iret X6 d11_28 rfl (by decide) (by decide) (fun _ CC => rfl)
theorem rm_au168 (G : GL l Z a0 zc fmt) (F0 : ex1 Z h0 pa1) (F1 : fd0 Z h0 pa1 (.int 0)) (F2 : fd1 Z h0 pa1 (.ref pa2)) (F3 : av1 Z h0 pa2 pk1 5 [.int pi1, .int pi2, .int pi3, .int pi4, .int pi5]) (nk_pi2_47 : ¬ pi2 = (47 : Int32)) (nk_pi3_47 : ¬ pi3 = (47 : Int32)) (nk_pi4_47 : ¬ pi4 = (47 : Int32)) (nk_pi5_47 : ¬ pi5 = (47 : Int32)) (pc_0 : pi1 = (47 : Int32)) : M8 l Z 3 0 0 42 #[.ref pa1, .int 47] h0 n0 [] [] (Q3 Z  h0) := by
  refine mi B8 ef6 (hEW G) fun s X0 hsf0 n0le => ?_
  have := F0.l
  have := F3.l
  refine oA 1 X0 d8_0 rfl rfl <| oI 2 X0 d8_1 rfl rfl <| oA 3 X0 d8_2 rfl rfl <| mV 6 2 X0 F0 (rm_au165 G F0 F1 F2 F3) (u7 G) all0 d8_3 rfl rfl rfl lr (by decide) all0 ?_
  rintro _ _ _ _ X1 rfl K1 _ _
  refine sk [.int 5, .int 47, .ref pa1] rfl <| oc 7 (v := 1) X1 d8_6 rfl (by decide) <| o_isub 8 (v := 4) X1 d8_7 rfl (by decide) ?_
  have f2 := F0.keep K1
  have f3 := F1.k0 K1
  have f4 := F2.k0 K1
  have f5 := F3.k0 K1
  refine mV 11 0 X1 f2 (rm_au167 G f2 f3 f4 f5 nk_pi2_47 nk_pi3_47 nk_pi4_47 nk_pi5_47 pc_0) (u12 G) all0 d8_8 rfl rfl rfl lr (by decide) all0 ?_
  rintro _ _ _ _ X6 rfl _ _ _
  refine sk [i0] rfl ?_
  exact o_iret X6 d8_11 rfl (by decide) (by decide) (fun _ CC => rfl)
def Q35 (Z : State) (b1 b2 b3 b4 : Int32) (h0 : Heap) (v : Option Value) (h : Heap) (vm : Vm) : Prop := ∃ (xa1 : Addr) (xk1 : ClassId), v = some (.ref xa1) ∧ av1 Z h xa1 xk1 4 [.int b1, .int b2, .int b3, .int b4] ∧ ex0 Z h xa1 ∧ Safe Z EL0 vm h xa1 ∧ h0.size ≤ xa1 ∧ h.size > xa1
theorem rm_au169 (G : GL l Z a0 zc fmt) (F0 : av1 Z h0 pa1 pk1 5 [.int pi1, .int pi2, .int pi3, .int pi4, .int pi5]) : M22 l Z 1 1 4 40 #[.ref pa1, .int 1, .int 5] h0 n0 [] [] (Q35 Z pi2 pi3 pi4 pi5 h0) := by
  refine mi B22 ef13 (hEW G) fun s X0 hsf0 n0le => ?_
  have := F0.l
  refine oI 1 X0 d22_0 rfl rfl <| oI 2 X0 d22_1 rfl rfl <| mS 5 0 X0 (rm_au32 G (by decide)) (u20 G) all0 d22_2 rfl rfl rfl lr (by decide) all0 ?_
  rintro _ _ _ _ X1 rfl K1 _ _
  refine sk [] rfl <| oI 6 X1 d22_5 rfl rfl <| oI 7 X1 d22_6 rfl rfl <| o_isub 8 (v := 4) X1 d22_7 rfl (by decide) <| oT 9 (l' := #[rr pa1, ii 1, ii 5, ii 4, uu]) X1 d22_8 rfl rfl <| oI 10 X1 d22_9 rfl rfl <| nP (aty := .byte) 12 4 X1 (w24 G) d22_10 rfl (by decide) had_byte ?_
  intro _ h2 b2 k2 X2 _ _ E2 V2 A2 _ S2
  have V3 : av1 Z h2 b2 k2 4 [i0, i0, i0, i0] := V2.pad (pad_rep [] (.int (0 : Int32)) 4)
  refine oU 14 (l' := #[rr pa1, ii 1, ii 5, ii 4, rr b2]) X2 d22_12 rfl rfl rfl <| oA 15 X2 d22_14 rfl rfl <| oI 16 X2 d22_15 rfl rfl <| oa 18 X2 d22_16 rfl rfl <| oc 19 (v := 0) X2 d22_18 rfl (by decide) <| oA 20 X2 d22_19 rfl rfl ?_
  have f4 := (F0.k0 K1).ext E2
  refine oL 21 X2 f4 d22_20 rfl <| oI 22 X2 d22_21 rfl rfl <| o_isub 23 (v := 4) X2 d22_22 rfl (by decide) <| oI 24 X2 d22_23 rfl rfl <| mS 27 4 X2 (rm_au9 G (by decide)) (u21 G) all0 d22_24 rfl rfl rfl lr (by decide) all0 ?_
  rintro _ _ _ _ X5 rfl K5 _ C5
  refine sk [.int 4, i0, .ref b2, .int 1, .ref pa1] rfl ?_
  have f6 := f4.k0 K5
  have f7 := V3.k0 K5
  have f8 := C5.safe (own_lt (by omega)) S2
  refine o_cp 30 (us := [.int pi2, .int pi3, .int pi4, .int pi5]) (vr := [.int pi2, .int pi3, .int pi4, .int pi5]) (W := 0) X5 (w111 G) (w114 G) (w112 G) (w113 G) f6 f7 (Or.inl ⟨rfl, rfl⟩) (by decide) (by decide) (by decide) (by decide) (by decide) rfl (Nat.le_of_ble_eq_true rfl) rfl d22_27 rfl rfl (by decide) (Nat.le_of_eq rfl) (by decide) (by omega) (Or.inr (by omega)) f8 ?_
  intro _ _ X9 K9 C9 V9
  have := K9.1
  refine oa 32 X9 d22_30 rfl rfl ?_
  have f10 := (A2.keep K5).keep K9
  have f11 := C9.safe (own_lt (by omega)) f8
  exact oR X9 d22_32 rfl rfl rfl (by decide) (by decide) (fun _ CC => ⟨b2, k2, rfl, V9, f10, (CC.safe (own_lt (by omega)) f11), by omega⟩)
theorem rm_au170 (G : GL l Z a0 zc fmt) (F0 : av1 Z h0 pa1 pk1 5 [.int pi1, .int pi2, .int pi3, .int pi4, .int pi5]) : M21 l Z 2 1 4 56 #[.ref pa1, .int 1, .int 5] h0 n0 [] [] (Q35 Z pi2 pi3 pi4 pi5 h0) := by
  refine mi B21 ef9 (hEW G) fun s X0 hsf0 n0le => ?_
  have := F0.l
  refine oI 1 X0 d21_0 rfl rfl <| oy 10 X0 d21_1 (by decide) ((if0 _ _).trans (feq (by decide)).2) <| oA 11 X0 d21_10 rfl rfl <| oI 12 X0 d21_11 rfl rfl <| oI 13 X0 d21_12 rfl rfl <| mS 16 0 X0 (rm_au169 G F0) (u22 G) all0 d21_13 rfl rfl rfl lr (by decide) all0 ?_
  rintro _ _ _ _ X1 ⟨xa1_2, xk1_3, rfl, q4, q5, q6, _⟩ _ _ _
  refine sk [.ref xa1_2] rfl ?_
  exact oR X1 d21_16 rfl rfl rfl (by decide) (by decide) (fun _ CC => ⟨xa1_2, xk1_3, rfl, q4, q5, (CC.safe (own_lt (by omega)) q6), by omega⟩)
def Q36 (Z : State) (b1 b2 b3 b4 : Int32) (h0 : Heap) (v : Option Value) (h : Heap) (vm : Vm) : Prop := ∃ (xa1 : Addr) (xa2 : Addr) (xk1 : ClassId), v = some (.ref xa1) ∧ ex1 Z h xa1 ∧ fd0 Z h xa1 (.int 0) ∧ fd1 Z h xa1 (.ref xa2) ∧ Safe Z EL0 vm h xa1 ∧ av1 Z h xa2 xk1 4 [.int b1, .int b2, .int b3, .int b4] ∧ ex0 Z h xa2 ∧ Safe Z EL0 vm h xa2 ∧ h0.size ≤ xa1 ∧ h.size > xa1 ∧ h0.size ≤ xa2 ∧ h.size > xa2 ∧ NE xa1 xa2
theorem rm_au171 (G : GL l Z a0 zc fmt) (F0 : av1 Z h0 pa1 pk1 5 [.int pi1, .int pi2, .int pi3, .int pi4, .int pi5]) : M20 l Z 3 2 8 72 #[.ref pa1, .int 1, .int 4] h0 n0 [] [] (Q36 Z pi2 pi3 pi4 pi5 h0) := by
  refine mi B20 ef9 (hEW G) fun s X0 hsf0 n0le => ?_
  have l1 := F0.l
  refine oI 1 X0 d20_0 rfl rfl <| oy 7 X0 d20_1 (by decide) ((if0 _ _).trans (feq (by decide)).2) <| o_new 10 X0 (w99 G) (w7 G) (w8 G) d20_7 rfl (by decide) (by decide) ?_
  intro _ h1 b1 X1 _ l1 E1 A1 D1 _ _ S1
  have f2 : fd0 Z h1 b1 (.int 0) := D1 (Or.inr (w32 G)) fd_0
  have f3 : fd1 Z h1 b1 .null := D1 (Or.inr (w34 G)) fd_1
  refine oD 11 X1 d20_10 rfl rfl <| oA 12 X1 d20_11 rfl rfl <| oI 13 X1 d20_12 rfl rfl <| oI 14 X1 d20_13 rfl rfl <| oI 15 X1 d20_14 rfl rfl <| o_iadd 16 (v := 5) X1 d20_15 rfl (by decide) ?_
  have f4 := F0.ext E1
  refine mS 19 2 X1 (rm_au170 G f4) (u23 G) all0 d20_16 rfl rfl rfl lr (by decide) all0 ?_
  rintro _ _ _ _ X5 ⟨xa1_6, xk1_7, rfl, q8, q9, q10, _⟩ K5 _ C5
  refine sk [.ref xa1_6, .ref b1, .ref b1] rfl <| oc 20 (v := 0) X5 d20_19 rfl (by decide) ?_
  have f12 := A1.keep K5
  have f13 := f2.k0 K5
  have f14 := f3.k0 K5
  have f15 := C5.safe (own_lt (by omega)) S1
  refine mP 23 1 X5 (rm_au35 G f12 f13 f14 (by omega)) (u24 G) (sS (by omega) f15 all0) d20_20 rfl rfl rfl lr (by decide) (aR (by omega) all0) ?_
  rintro _ _ _ _ X16 ⟨rfl, q17, q18, q19⟩ K16 _ C16
  refine sk [.ref b1] rfl ?_
  have f20 := C16.safe (own_lt (by omega)) f15
  have f21 := q8.k1 K16 (by omega)
  have f22 := q9.keep K16
  have f23 := C16.safe (own_lt (by omega)) q10
  exact oR X16 d20_23 rfl rfl rfl (by decide) (by decide) (fun _ CC => ⟨b1, xa1_6, xk1_7, rfl, q17, q18, q19, (CC.safe (own_lt (by omega)) f20), f21, f22, (CC.safe (own_lt (by omega)) f23), by omega⟩)
theorem rm_au172 (G : GL l Z a0 zc fmt) (F0 : ex1 Z h0 pa1) (F1 : fd0 Z h0 pa1 (.int 0)) (F2 : fd1 Z h0 pa1 (.ref pa2)) (F3 : av1 Z h0 pa2 pk1 5 [.int pi1, .int pi2, .int pi3, .int pi4, .int pi5]) : M17 l Z 4 2 8 86 #[.ref pa1, .int 1, .int 5] h0 n0 [] [] (Q36 Z pi2 pi3 pi4 pi5 h0) := by
  refine mi B17 ef13 (hEW G) fun s X0 hsf0 n0le => ?_
  have := F0.l
  have := F3.l
  refine oA 1 X0 d17_0 rfl rfl <| mV 4 0 X0 F0 (rm_au165 G F0 F1 F2 F3) (u7 G) all0 d17_1 rfl rfl rfl lr (by decide) all0 ?_
  rintro _ _ _ _ X1 rfl K1 _ _
  refine sk [.int 5] rfl <| oT 5 (l' := #[rr pa1, ii 1, ii 5, ii 5, uu]) X1 d17_4 rfl rfl <| oI 6 X1 d17_5 rfl rfl <| oI 7 X1 d17_6 rfl rfl <| oI 8 X1 d17_7 rfl rfl <| mS 11 0 X1 (rm_au14 G (by decide) (by decide) (by decide)) (u15 G) all0 d17_8 rfl rfl rfl lr (by decide) all0 ?_
  rintro _ _ _ _ X2 rfl K2 _ _
  refine sk [] rfl <| oI 12 X2 d17_11 rfl rfl <| oy 22 X2 d17_12 (by decide) ((if0 _ _).trans (feq (by decide)).2) <| oI 23 X2 d17_22 rfl rfl <| oI 24 X2 d17_23 rfl rfl <| o_isub 25 (v := 4) X2 d17_24 rfl (by decide) <| oS 27 (l' := #[rr pa1, ii 1, ii 5, ii 5, ii 4]) X2 d17_25 rfl rfl <| oA 28 X2 d17_27 rfl rfl ?_
  have f3 := (F1.k0 K1).k0 K2
  have f4 := (F0.keep K1).keep K2
  refine mV 31 0 X2 f4 (rm_au7 G f3 (by decide)) (u8 G) all0 d17_28 rfl rfl rfl lr (by decide) all0 ?_
  rintro _ _ _ _ X5 rfl K5 _ _
  refine sk [.int 1] rfl <| on 34 X5 d17_31 rfl ((if0 _ _).trans (feq (by decide)).1) <| oA 35 X5 d17_34 rfl rfl ?_
  have f6 := ((F2.k0 K1).k0 K2).k0 K5
  refine oF 38 X5 (w33 G) Via.refl f6 d17_35 rfl ?_
  intro _ X8
  refine oI 39 X8 d17_38 rfl rfl <| oi 41 X8 d17_39 rfl rfl ?_
  have f9 := ((F3.k0 K1).k0 K2).k0 K5
  refine mS 44 0 X8 (rm_au171 G f9) (u16 G) all0 d17_41 rfl rfl rfl lr (by decide) all0 ?_
  rintro _ _ _ _ X10 ⟨xa1_11, xa2_12, xk1_13, rfl, q14, q15, q16, q17, q18, q19, q20, _⟩ _ _ _
  refine sk [.ref xa1_11] rfl <| og 57 X10 d17_44 (by decide) ?_
  exact oR X10 d17_57 rfl rfl rfl (by decide) (by decide) (fun _ CC => ⟨xa1_11, xa2_12, xk1_13, rfl, q14, q15, q16, (CC.safe (own_lt (by omega)) q17), q18, q19, (CC.safe (own_lt (by omega)) q20), by omega⟩)
theorem rm_au173 (G : GL l Z a0 zc fmt) (F0 : ex1 Z h0 pa1) (F1 : fd0 Z h0 pa1 (.int 0)) (F2 : fd1 Z h0 pa1 (.ref pa2)) (F3 : av1 Z h0 pa2 pk1 5 [.int pi1, .int pi2, .int pi3, .int pi4, .int pi5]) : M16 l Z 5 2 8 102 #[.ref pa1, .int 1] h0 n0 [] [] (Q36 Z pi2 pi3 pi4 pi5 h0) := by
  refine mi B16 ef6 (hEW G) fun s X0 hsf0 n0le => ?_
  have := F0.l
  have := F3.l
  refine oA 1 X0 d16_0 rfl rfl <| oI 2 X0 d16_1 rfl rfl <| oA 3 X0 d16_2 rfl rfl <| mV 6 2 X0 F0 (rm_au165 G F0 F1 F2 F3) (u7 G) all0 d16_3 rfl rfl rfl lr (by decide) all0 ?_
  rintro _ _ _ _ X1 rfl K1 _ _
  refine sk [.int 5, .int 1, .ref pa1] rfl ?_
  have f2 := F0.keep K1
  have f3 := F1.k0 K1
  have f4 := F2.k0 K1
  have f5 := F3.k0 K1
  refine mV 9 0 X1 f2 (rm_au172 G f2 f3 f4 f5) (u17 G) all0 d16_6 rfl rfl rfl lr (by decide) all0 ?_
  rintro _ _ _ _ X6 ⟨xa1_7, xa2_8, xk1_9, rfl, q10, q11, q12, q13, q14, q15, q16, _⟩ _ _ _
  refine sk [.ref xa1_7] rfl ?_
  exact oR X6 d16_9 rfl rfl rfl (by decide) (by decide) (fun _ CC => ⟨xa1_7, xa2_8, xk1_9, rfl, q10, q11, q12, (CC.safe (own_lt (by omega)) q13), q14, q15, (CC.safe (own_lt (by omega)) q16), by omega⟩)
theorem rm_au174 (G : GL l Z a0 zc fmt) (F0 : av1 Z h0 pa1 pk1 4 [.int pi1, .int pi2, .int pi3, .int pi4]) (nk_pi1_46 : ¬ pi1 = (46 : Int32)) (nk_pi2_46 : ¬ pi2 = (46 : Int32)) (nk_pi3_46 : ¬ pi3 = (46 : Int32)) (nk_pi4_46 : ¬ pi4 = (46 : Int32)) : M13 l Z 1 0 0 13 #[.ref pa1, .int 46, .int 3] h0 n0 [] [] (Q9 Z  h0) := by
  refine mi B13 ef10 (hEW G) fun s X0 hsf0 n0le => ?_
  have := F0.l
  refine oI 1 X0 d13_0 rfl rfl <| mS 4 0 X0 (rm_au8 G (by decide) (by decide)) (u9 G) all0 d13_1 rfl rfl rfl lr (by decide) all0 ?_
  rintro _ _ _ _ X1 rfl K1 _ _
  refine sk [.int 1] rfl <| oy 9 X1 d13_4 (by decide) ((if0 _ _).trans (feq (by decide)).2) <| oI 10 X1 d13_9 rfl rfl <| oA 11 X1 d13_10 rfl rfl ?_
  have f2 := F0.k0 K1
  refine oL 12 X1 f2 d13_11 rfl <| oc 13 (v := 1) X1 d13_12 rfl (by decide) <| o_isub 14 (v := 3) X1 d13_13 rfl (by decide) <| mS 17 0 X1 (rm_au9 G (by decide)) (u10 G) all0 d13_14 rfl rfl rfl lr (by decide) all0 ?_
  rintro _ _ _ _ X3 rfl K3 _ _
  refine sk [.int 3] rfl <| oT 18 (l' := #[rr pa1, ii 46, ii 3, ii 3]) X3 d13_17 rfl rfl <| oI 19 X3 d13_18 rfl rfl <| on 22 X3 d13_19 rfl ((if0 _ _).trans (flt (by decide)).1) <| oA 23 X3 d13_22 rfl rfl <| oI 24 X3 d13_23 rfl rfl ?_
  have f4 := f2.k0 K3
  refine oB 25 (v := (.int pi4)) X3 f4 ⟨by decide, by decide⟩ rfl d13_24 rfl <| oI 26 X3 d13_25 rfl rfl <| o_i2b 27 (v := 46) X3 d13_26 rfl (by decide) <| oY 32 X3 d13_27 (by decide) (feq nk_pi4_46).2 <| oJ 35 2 #[rr pa1, ii 46, ii 3, ii 2] X3 d13_32 rfl rfl (by decide) rfl <| og 18 X3 d13_35 (by decide) <| oI 19 X3 d13_18 rfl rfl <| on 22 X3 d13_19 rfl ((if0 _ _).trans (flt (by decide)).1) <| oA 23 X3 d13_22 rfl rfl <| oI 24 X3 d13_23 rfl rfl <| oB 25 (v := (.int pi3)) X3 f4 ⟨by decide, by decide⟩ rfl d13_24 rfl <| oI 26 X3 d13_25 rfl rfl ?_
  refine o_i2b 27 (v := 46) X3 d13_26 rfl (by decide) <| oY 32 X3 d13_27 (by decide) (feq nk_pi3_46).2 <| oJ 35 1 #[rr pa1, ii 46, ii 3, ii 1] X3 d13_32 rfl rfl (by decide) rfl <| og 18 X3 d13_35 (by decide) <| oI 19 X3 d13_18 rfl rfl <| on 22 X3 d13_19 rfl ((if0 _ _).trans (flt (by decide)).1) <| oA 23 X3 d13_22 rfl rfl <| oI 24 X3 d13_23 rfl rfl <| oB 25 (v := (.int pi2)) X3 f4 ⟨by decide, by decide⟩ rfl d13_24 rfl <| oI 26 X3 d13_25 rfl rfl <| o_i2b 27 (v := 46) X3 d13_26 rfl (by decide) <| oY 32 X3 d13_27 (by decide) (feq nk_pi2_46).2 ?_
  refine oJ 35 0 #[rr pa1, ii 46, ii 3, ii 0] X3 d13_32 rfl rfl (by decide) rfl <| og 18 X3 d13_35 (by decide) <| oI 19 X3 d13_18 rfl rfl <| on 22 X3 d13_19 rfl ((if0 _ _).trans (flt (by decide)).1) <| oA 23 X3 d13_22 rfl rfl <| oI 24 X3 d13_23 rfl rfl <| oB 25 (v := (.int pi1)) X3 f4 ⟨by decide, by decide⟩ rfl d13_24 rfl <| oI 26 X3 d13_25 rfl rfl <| o_i2b 27 (v := 46) X3 d13_26 rfl (by decide) <| oY 32 X3 d13_27 (by decide) (feq nk_pi1_46).2 <| oJ 35 (-1) #[rr pa1, ii 46, ii 3, ii (-1)] X3 d13_32 rfl rfl (by decide) rfl <| og 18 X3 d13_35 (by decide) ?_
  refine oI 19 X3 d13_18 rfl rfl <| oy 38 X3 d13_19 (by decide) ((if0 _ _).trans (tlt (by decide)).1) <| oc 39 (v := (-1)) X3 d13_38 rfl (by decide) ?_
  exact o_iret X3 d13_39 rfl (by decide) (by decide) (fun _ CC => rfl)
theorem rm_au175 (G : GL l Z a0 zc fmt) (F0 : ex1 Z h0 pa1) (F1 : fd0 Z h0 pa1 (.int 0)) (F2 : fd1 Z h0 pa1 (.ref pa2)) (F3 : av1 Z h0 pa2 pk1 4 [.int pi1, .int pi2, .int pi3, .int pi4]) (nk_pi1_46 : ¬ pi1 = (46 : Int32)) (nk_pi2_46 : ¬ pi2 = (46 : Int32)) (nk_pi3_46 : ¬ pi3 = (46 : Int32)) (nk_pi4_46 : ¬ pi4 = (46 : Int32)) : M11 l Z 2 0 0 28 #[.ref pa1, .int 46, .int 3] h0 n0 [] [] (Q9 Z  h0) := by
  refine mi B11 ef9 (hEW G) fun s X0 hsf0 n0le => ?_
  have := F0.l
  have := F3.l
  refine oA 1 X0 d11_0 rfl rfl <| mV 4 0 X0 F0 (rm_au7 G F1 (by decide)) (u8 G) all0 d11_1 rfl rfl rfl lr (by decide) all0 ?_
  rintro _ _ _ _ X1 rfl K1 _ _
  refine sk [.int 1] rfl <| on 7 X1 d11_4 rfl ((if0 _ _).trans (feq (by decide)).1) <| oA 8 X1 d11_7 rfl rfl ?_
  have f2 := F2.k0 K1
  refine oF 11 X1 (w33 G) Via.refl f2 d11_8 rfl ?_
  intro _ X4
  refine oI 12 X4 d11_11 rfl rfl <| oI 13 X4 d11_12 rfl rfl ?_
  have f5 := F3.k0 K1
  refine mS 16 0 X4 (rm_au174 G f5 nk_pi1_46 nk_pi2_46 nk_pi3_46 nk_pi4_46) (u11 G) all0 d11_13 rfl rfl rfl lr (by decide) all0 ?_
  rintro _ _ _ _ X6 rfl _ _ _
  refine sk [.int (-1)] rfl <| og 28 X6 d11_16 (by decide) ?_
  exact o_iret X6 d11_28 rfl (by decide) (by decide) (fun _ CC => rfl)
theorem rm_au176 (G : GL l Z a0 zc fmt) (F0 : ex1 Z h0 pa1) (F1 : fd0 Z h0 pa1 (.int 0)) (F2 : fd1 Z h0 pa1 (.ref pa2)) (F3 : av1 Z h0 pa2 pk1 4 [.int pi1, .int pi2, .int pi3, .int pi4]) (nk_pi1_46 : ¬ pi1 = (46 : Int32)) (nk_pi2_46 : ¬ pi2 = (46 : Int32)) (nk_pi3_46 : ¬ pi3 = (46 : Int32)) (nk_pi4_46 : ¬ pi4 = (46 : Int32)) : M8 l Z 3 0 0 42 #[.ref pa1, .int 46] h0 n0 [] [] (Q9 Z  h0) := by
  refine mi B8 ef6 (hEW G) fun s X0 hsf0 n0le => ?_
  have := F0.l
  have := F3.l
  refine oA 1 X0 d8_0 rfl rfl <| oI 2 X0 d8_1 rfl rfl <| oA 3 X0 d8_2 rfl rfl <| mV 6 2 X0 F0 (rm_au104 G F0 F1 F2 F3) (u7 G) all0 d8_3 rfl rfl rfl lr (by decide) all0 ?_
  rintro _ _ _ _ X1 rfl K1 _ _
  refine sk [.int 4, .int 46, .ref pa1] rfl <| oc 7 (v := 1) X1 d8_6 rfl (by decide) <| o_isub 8 (v := 3) X1 d8_7 rfl (by decide) ?_
  have f2 := F0.keep K1
  have f3 := F1.k0 K1
  have f4 := F2.k0 K1
  have f5 := F3.k0 K1
  refine mV 11 0 X1 f2 (rm_au175 G f2 f3 f4 f5 nk_pi1_46 nk_pi2_46 nk_pi3_46 nk_pi4_46) (u12 G) all0 d8_8 rfl rfl rfl lr (by decide) all0 ?_
  rintro _ _ _ _ X6 rfl _ _ _
  refine sk [.int (-1)] rfl ?_
  exact o_iret X6 d8_11 rfl (by decide) (by decide) (fun _ CC => rfl)
theorem rm_au177 (G : GL l Z a0 zc fmt) (F0 : ex1 Z h0 pa1) (F1 : fd0 Z h0 pa1 (.int 0)) (F2 : fd1 Z h0 pa1 (.ref pa2)) (F3 : av1 Z h0 pa2 pk1 5 [.int pi100, .int pi1, .int pi2, .int pi3, .int pi4]) (nk_pi1_46 : ¬ pi1 = (46 : Int32)) (nk_pi1_47 : ¬ pi1 = (47 : Int32)) (nk_pi2_46 : ¬ pi2 = (46 : Int32)) (nk_pi2_47 : ¬ pi2 = (47 : Int32)) (nk_pi3_46 : ¬ pi3 = (46 : Int32)) (nk_pi3_47 : ¬ pi3 = (47 : Int32)) (nk_pi4_46 : ¬ pi4 = (46 : Int32)) (nk_pi4_47 : ¬ pi4 = (47 : Int32)) (pc_0 : pi100 = (47 : Int32)) : M7 l Z 6 2 8 115 #[.ref pa1] h0 n0 [] [] (Q10 Z  h0) := by
  refine mi B7 ef7 (hEW G) fun s X0 hsf0 n0le => ?_
  have := F0.l
  have := F3.l
  refine oA 1 X0 d7_0 rfl rfl <| oA 2 X0 d7_1 rfl rfl <| ob 4 (v := 47) X0 d7_2 rfl (by decide) <| mV 7 1 X0 F0 (rm_au168 G F0 F1 F2 F3 nk_pi1_47 nk_pi2_47 nk_pi3_47 nk_pi4_47 pc_0) (u13 G) all0 d7_4 rfl rfl rfl lr (by decide) all0 ?_
  rintro _ _ _ _ X1 rfl K1 _ _
  refine sk [i0, .ref pa1] rfl <| oc 8 (v := 1) X1 d7_7 rfl (by decide) <| o_iadd 9 (v := 1) X1 d7_8 rfl (by decide) ?_
  have f2 := F0.keep K1
  have f3 := F1.k0 K1
  have f4 := F2.k0 K1
  have f5 := F3.k0 K1
  refine mV 12 0 X1 f2 (rm_au173 G f2 f3 f4 f5) (u18 G) all0 d7_9 rfl rfl rfl lr (by decide) all0 ?_
  rintro _ _ _ _ X6 ⟨xa1_7, _, _, rfl, q10, q11, q12, _, q14, _, _, _⟩ _ _ _
  refine sk [.ref xa1_7] rfl <| oV 13 (l' := #[rr pa1, rr xa1_7, uu]) X6 d7_12 rfl rfl rfl <| oA 14 X6 d7_13 rfl rfl <| ob 16 (v := 46) X6 d7_14 rfl (by decide) <| mV 19 0 X6 q10 (rm_au176 G q10 q11 q12 q14 nk_pi1_46 nk_pi2_46 nk_pi3_46 nk_pi4_46) (u13 G) all0 d7_16 rfl rfl rfl lr (by decide) all0 ?_
  rintro _ _ _ _ X18 rfl _ _ _
  refine sk [.int (-1)] rfl <| oT 20 (l' := #[rr pa1, rr xa1_7, ii (-1)]) X18 d7_19 rfl rfl <| oI 21 X18 d7_20 rfl rfl <| on 24 X18 d7_21 rfl ((if0 _ _).trans (tlt (by decide)).2.1) <| o_aconstNull 25 X18 d7_24 rfl <| og 35 X18 d7_25 (by decide) ?_
  exact oR X18 d7_35 rfl rfl rfl (by decide) (by decide) (fun _ CC => rfl)
theorem rm_au178 (G : GL l Z a0 zc fmt) (F0 : av1 Z h0 pa1 pk1 4 [.int pi1, .int pi2, .int pi3, .int pi4]) (nk_pi2_46 : ¬ pi2 = (46 : Int32)) (nk_pi3_46 : ¬ pi3 = (46 : Int32)) (nk_pi4_46 : ¬ pi4 = (46 : Int32)) (pc_0 : pi1 = (46 : Int32)) : M13 l Z 1 0 0 13 #[.ref pa1, .int 46, .int 3] h0 n0 [] [] (Q3 Z  h0) := by
  refine mi B13 ef10 (hEW G) fun s X0 hsf0 n0le => ?_
  have := F0.l
  refine oI 1 X0 d13_0 rfl rfl <| mS 4 0 X0 (rm_au8 G (by decide) (by decide)) (u9 G) all0 d13_1 rfl rfl rfl lr (by decide) all0 ?_
  rintro _ _ _ _ X1 rfl K1 _ _
  refine sk [.int 1] rfl <| oy 9 X1 d13_4 (by decide) ((if0 _ _).trans (feq (by decide)).2) <| oI 10 X1 d13_9 rfl rfl <| oA 11 X1 d13_10 rfl rfl ?_
  have f2 := F0.k0 K1
  refine oL 12 X1 f2 d13_11 rfl <| oc 13 (v := 1) X1 d13_12 rfl (by decide) <| o_isub 14 (v := 3) X1 d13_13 rfl (by decide) <| mS 17 0 X1 (rm_au9 G (by decide)) (u10 G) all0 d13_14 rfl rfl rfl lr (by decide) all0 ?_
  rintro _ _ _ _ X3 rfl K3 _ _
  refine sk [.int 3] rfl <| oT 18 (l' := #[rr pa1, ii 46, ii 3, ii 3]) X3 d13_17 rfl rfl <| oI 19 X3 d13_18 rfl rfl <| on 22 X3 d13_19 rfl ((if0 _ _).trans (flt (by decide)).1) <| oA 23 X3 d13_22 rfl rfl <| oI 24 X3 d13_23 rfl rfl ?_
  have f4 := f2.k0 K3
  refine oB 25 (v := (.int pi4)) X3 f4 ⟨by decide, by decide⟩ rfl d13_24 rfl <| oI 26 X3 d13_25 rfl rfl <| o_i2b 27 (v := 46) X3 d13_26 rfl (by decide) <| oY 32 X3 d13_27 (by decide) (feq nk_pi4_46).2 <| oJ 35 2 #[rr pa1, ii 46, ii 3, ii 2] X3 d13_32 rfl rfl (by decide) rfl <| og 18 X3 d13_35 (by decide) <| oI 19 X3 d13_18 rfl rfl <| on 22 X3 d13_19 rfl ((if0 _ _).trans (flt (by decide)).1) <| oA 23 X3 d13_22 rfl rfl <| oI 24 X3 d13_23 rfl rfl <| oB 25 (v := (.int pi3)) X3 f4 ⟨by decide, by decide⟩ rfl d13_24 rfl <| oI 26 X3 d13_25 rfl rfl ?_
  refine o_i2b 27 (v := 46) X3 d13_26 rfl (by decide) <| oY 32 X3 d13_27 (by decide) (feq nk_pi3_46).2 <| oJ 35 1 #[rr pa1, ii 46, ii 3, ii 1] X3 d13_32 rfl rfl (by decide) rfl <| og 18 X3 d13_35 (by decide) <| oI 19 X3 d13_18 rfl rfl <| on 22 X3 d13_19 rfl ((if0 _ _).trans (flt (by decide)).1) <| oA 23 X3 d13_22 rfl rfl <| oI 24 X3 d13_23 rfl rfl <| oB 25 (v := (.int pi2)) X3 f4 ⟨by decide, by decide⟩ rfl d13_24 rfl <| oI 26 X3 d13_25 rfl rfl <| o_i2b 27 (v := 46) X3 d13_26 rfl (by decide) <| oY 32 X3 d13_27 (by decide) (feq nk_pi2_46).2 ?_
  refine oJ 35 0 #[rr pa1, ii 46, ii 3, ii 0] X3 d13_32 rfl rfl (by decide) rfl <| og 18 X3 d13_35 (by decide) <| oI 19 X3 d13_18 rfl rfl <| on 22 X3 d13_19 rfl ((if0 _ _).trans (flt (by decide)).1) <| oA 23 X3 d13_22 rfl rfl <| oI 24 X3 d13_23 rfl rfl <| oB 25 (v := (.int pi1)) X3 f4 ⟨by decide, by decide⟩ rfl d13_24 rfl <| oI 26 X3 d13_25 rfl rfl <| o_i2b 27 (v := 46) X3 d13_26 rfl (by decide) <| oN 30 X3 d13_27 rfl (teq pc_0).2 <| oI 31 X3 d13_30 rfl rfl ?_
  exact o_iret X3 d13_31 rfl (by decide) (by decide) (fun _ CC => rfl)
theorem rm_au179 (G : GL l Z a0 zc fmt) (F0 : ex1 Z h0 pa1) (F1 : fd0 Z h0 pa1 (.int 0)) (F2 : fd1 Z h0 pa1 (.ref pa2)) (F3 : av1 Z h0 pa2 pk1 4 [.int pi1, .int pi2, .int pi3, .int pi4]) (nk_pi2_46 : ¬ pi2 = (46 : Int32)) (nk_pi3_46 : ¬ pi3 = (46 : Int32)) (nk_pi4_46 : ¬ pi4 = (46 : Int32)) (pc_0 : pi1 = (46 : Int32)) : M11 l Z 2 0 0 28 #[.ref pa1, .int 46, .int 3] h0 n0 [] [] (Q3 Z  h0) := by
  refine mi B11 ef9 (hEW G) fun s X0 hsf0 n0le => ?_
  have := F0.l
  have := F3.l
  refine oA 1 X0 d11_0 rfl rfl <| mV 4 0 X0 F0 (rm_au7 G F1 (by decide)) (u8 G) all0 d11_1 rfl rfl rfl lr (by decide) all0 ?_
  rintro _ _ _ _ X1 rfl K1 _ _
  refine sk [.int 1] rfl <| on 7 X1 d11_4 rfl ((if0 _ _).trans (feq (by decide)).1) <| oA 8 X1 d11_7 rfl rfl ?_
  have f2 := F2.k0 K1
  refine oF 11 X1 (w33 G) Via.refl f2 d11_8 rfl ?_
  intro _ X4
  refine oI 12 X4 d11_11 rfl rfl <| oI 13 X4 d11_12 rfl rfl ?_
  have f5 := F3.k0 K1
  refine mS 16 0 X4 (rm_au178 G f5 nk_pi2_46 nk_pi3_46 nk_pi4_46 pc_0) (u11 G) all0 d11_13 rfl rfl rfl lr (by decide) all0 ?_
  rintro _ _ _ _ X6 rfl _ _ _
  refine sk [i0] rfl <| og 28 X6 d11_16 (by decide) ?_
  exact o_iret X6 d11_28 rfl (by decide) (by decide) (fun _ CC => rfl)
theorem rm_au180 (G : GL l Z a0 zc fmt) (F0 : ex1 Z h0 pa1) (F1 : fd0 Z h0 pa1 (.int 0)) (F2 : fd1 Z h0 pa1 (.ref pa2)) (F3 : av1 Z h0 pa2 pk1 4 [.int pi1, .int pi2, .int pi3, .int pi4]) (nk_pi2_46 : ¬ pi2 = (46 : Int32)) (nk_pi3_46 : ¬ pi3 = (46 : Int32)) (nk_pi4_46 : ¬ pi4 = (46 : Int32)) (pc_0 : pi1 = (46 : Int32)) : M8 l Z 3 0 0 42 #[.ref pa1, .int 46] h0 n0 [] [] (Q3 Z  h0) := by
  refine mi B8 ef6 (hEW G) fun s X0 hsf0 n0le => ?_
  have := F0.l
  have := F3.l
  refine oA 1 X0 d8_0 rfl rfl <| oI 2 X0 d8_1 rfl rfl <| oA 3 X0 d8_2 rfl rfl <| mV 6 2 X0 F0 (rm_au104 G F0 F1 F2 F3) (u7 G) all0 d8_3 rfl rfl rfl lr (by decide) all0 ?_
  rintro _ _ _ _ X1 rfl K1 _ _
  refine sk [.int 4, .int 46, .ref pa1] rfl <| oc 7 (v := 1) X1 d8_6 rfl (by decide) <| o_isub 8 (v := 3) X1 d8_7 rfl (by decide) ?_
  have f2 := F0.keep K1
  have f3 := F1.k0 K1
  have f4 := F2.k0 K1
  have f5 := F3.k0 K1
  refine mV 11 0 X1 f2 (rm_au179 G f2 f3 f4 f5 nk_pi2_46 nk_pi3_46 nk_pi4_46 pc_0) (u12 G) all0 d8_8 rfl rfl rfl lr (by decide) all0 ?_
  rintro _ _ _ _ X6 rfl _ _ _
  refine sk [i0] rfl ?_
  exact o_iret X6 d8_11 rfl (by decide) (by decide) (fun _ CC => rfl)
theorem rm_au181 (G : GL l Z a0 zc fmt) (F0 : ex1 Z h0 pa1) (F1 : fd0 Z h0 pa1 (.int 0)) (F2 : fd1 Z h0 pa1 (.ref pa2)) (F3 : av1 Z h0 pa2 pk1 5 [.int pi100, .int pi101, .int pi1, .int pi2, .int pi3]) (nk_pi1_46 : ¬ pi1 = (46 : Int32)) (nk_pi1_47 : ¬ pi1 = (47 : Int32)) (nk_pi2_46 : ¬ pi2 = (46 : Int32)) (nk_pi2_47 : ¬ pi2 = (47 : Int32)) (nk_pi3_46 : ¬ pi3 = (46 : Int32)) (nk_pi3_47 : ¬ pi3 = (47 : Int32)) (pc_0 : ¬ pi101 = (47 : Int32)) (pc_1 : pi100 = (47 : Int32)) (pc_2 : pi101 = (46 : Int32)) : M7 l Z 6 4 15 115 #[.ref pa1] h0 n0 [] [] (Q30 Z pi1 pi2 pi3 h0) := by
  refine mi B7 ef7 (hEW G) fun s X0 hsf0 n0le => ?_
  have := F0.l
  have := F3.l
  refine oA 1 X0 d7_0 rfl rfl <| oA 2 X0 d7_1 rfl rfl <| ob 4 (v := 47) X0 d7_2 rfl (by decide) <| mV 7 1 X0 F0 (rm_au168 G F0 F1 F2 F3 pc_0 nk_pi1_47 nk_pi2_47 nk_pi3_47 pc_1) (u13 G) all0 d7_4 rfl rfl rfl lr (by decide) all0 ?_
  rintro _ _ _ _ X1 rfl K1 _ _
  refine sk [i0, .ref pa1] rfl <| oc 8 (v := 1) X1 d7_7 rfl (by decide) <| o_iadd 9 (v := 1) X1 d7_8 rfl (by decide) ?_
  have f2 := F0.keep K1
  have f3 := F1.k0 K1
  have f4 := F2.k0 K1
  have f5 := F3.k0 K1
  refine mV 12 0 X1 f2 (rm_au173 G f2 f3 f4 f5) (u18 G) all0 d7_9 rfl rfl rfl lr (by decide) all0 ?_
  rintro _ _ _ _ X6 ⟨xa1_7, _, _, rfl, q10, q11, q12, _, q14, _, _, _⟩ _ _ _
  refine sk [.ref xa1_7] rfl <| oV 13 (l' := #[rr pa1, rr xa1_7, uu]) X6 d7_12 rfl rfl rfl <| oA 14 X6 d7_13 rfl rfl <| ob 16 (v := 46) X6 d7_14 rfl (by decide) <| mV 19 0 X6 q10 (rm_au180 G q10 q11 q12 q14 nk_pi1_46 nk_pi2_46 nk_pi3_46 pc_2) (u13 G) all0 d7_16 rfl rfl rfl lr (by decide) all0 ?_
  rintro _ _ _ _ X18 rfl K18 _ _
  refine sk [i0] rfl <| oT 20 (l' := #[rr pa1, rr xa1_7, ii 0]) X18 d7_19 rfl rfl <| oI 21 X18 d7_20 rfl rfl <| oy 28 X18 d7_21 (by decide) ((if0 _ _).trans (flt (by decide)).2.1) <| oA 29 X18 d7_28 rfl rfl <| oI 30 X18 d7_29 rfl rfl <| oc 31 (v := 1) X18 d7_30 rfl (by decide) <| o_iadd 32 (v := 1) X18 d7_31 rfl (by decide) ?_
  have f19 := q10.keep K18
  have f20 := q11.k0 K18
  have f21 := q12.k0 K18
  have f22 := q14.k0 K18
  refine mV 35 0 X18 f19 (rm_au112 G f19 f20 f21 f22) (u18 G) all0 d7_32 rfl rfl rfl lr (by decide) all0 ?_
  rintro _ _ _ _ X23 ⟨xa1_24, xa2_25, xk1_26, rfl, q27, q28, q29, q30, q31, q32, q33, _⟩ _ _ _
  refine sk [.ref xa1_24] rfl ?_
  exact oR X23 d7_35 rfl rfl rfl (by decide) (by decide) (fun _ CC => ⟨xa1_24, xa2_25, xk1_26, rfl, q27, q28, q29, (CC.safe (own_lt (by omega)) q30), q31, q32, (CC.safe (own_lt (by omega)) q33), by omega⟩)
theorem rm_au182 (G : GL l Z a0 zc fmt) (F0 : av1 Z h0 pa1 pk1 3 [.int pi1, .int pi2, .int pi3]) : M26 l Z 2 0 0 27 #[.ref pa1, i0] h0 n0 [] [] (Q24 Z pi1 h0) := by
  refine mi B26 ef6 (hEW G) fun s X0 hsf0 n0le => ?_
  have := F0.l
  refine oI 1 X0 d26_0 rfl rfl <| oA 2 X0 d26_1 rfl rfl <| oL 3 X0 F0 d26_2 rfl <| mS 6 0 X0 (rm_au76 G (by decide) (by decide)) (u27 G) all0 d26_3 rfl rfl rfl lr (by decide) all0 ?_
  rintro _ _ _ _ X1 rfl K1 _ _
  refine sk [] rfl <| oA 7 X1 d26_6 rfl rfl <| oI 8 X1 d26_7 rfl rfl ?_
  have f2 := F0.k0 K1
  refine oB 9 (v := (.int pi1)) X1 f2 ⟨by decide, by decide⟩ rfl d26_8 rfl <| o_sipush 12 (v := 255) X1 d26_9 rfl (by decide) <| o_iand 13 (v := (pi1 &&& (255 : Int32))) X1 d26_12 rfl rfl <| o_i2c 14 (v := ((pi1 &&& (255 : Int32)).toUInt32.toUInt16.toUInt32.toInt32)) X1 d26_13 rfl rfl ?_
  exact o_nret (y := ((pi1 &&& (255 : Int32)).toUInt32.toUInt16.toUInt32.toInt32)) (t := .char) X1 d26_14 rfl (own_nc2 rfl) (by simp) (by decide) (by decide) (fun _ CC => rfl)
theorem rm_au183 (G : GL l Z a0 zc fmt) (F0 : ex1 Z h0 pa1) (F1 : fd0 Z h0 pa1 (.int 0)) (F2 : fd1 Z h0 pa1 (.ref pa2)) (F3 : av1 Z h0 pa2 pk1 3 [.int pi1, .int pi2, .int pi3]) : M25 l Z 3 0 0 40 #[.ref pa1, i0] h0 n0 [] [] (Q24 Z pi1 h0) := by
  refine mi B25 ef6 (hEW G) fun s X0 hsf0 n0le => ?_
  have := F0.l
  have := F3.l
  refine oA 1 X0 d25_0 rfl rfl <| mV 4 0 X0 F0 (rm_au7 G F1 (by decide)) (u8 G) all0 d25_1 rfl rfl rfl lr (by decide) all0 ?_
  rintro _ _ _ _ X1 rfl K1 _ _
  refine sk [.int 1] rfl <| on 7 X1 d25_4 rfl ((if0 _ _).trans (feq (by decide)).1) <| oA 8 X1 d25_7 rfl rfl ?_
  have f2 := F2.k0 K1
  refine oF 11 X1 (w33 G) Via.refl f2 d25_8 rfl ?_
  intro _ X4
  refine oI 12 X4 d25_11 rfl rfl ?_
  have f5 := F3.k0 K1
  refine mS 15 0 X4 (rm_au182 G f5) (u28 G) all0 d25_12 rfl rfl rfl lr (by decide) all0 ?_
  rintro _ _ _ _ X6 rfl _ _ _
  refine sk [.int ((pi1 &&& (255 : Int32)).toUInt32.toUInt16.toUInt32.toInt32)] rfl ?_
  exact o_nret (y := ((pi1 &&& (255 : Int32)).toUInt32.toUInt16.toUInt32.toInt32)) (t := .char) X6 d25_15 rfl (own_nc2 rfl) (by simp) (by decide) (by decide) (fun _ CC => rfl)
theorem rm_au184 (G : GL l Z a0 zc fmt) (F0 : av1 Z h0 pa1 pk1 3 [.int pi1, .int pi2, .int pi3]) : M26 l Z 2 0 0 27 #[.ref pa1, .int 1] h0 n0 [] [] (Q24 Z pi2 h0) := by
  refine mi B26 ef6 (hEW G) fun s X0 hsf0 n0le => ?_
  have := F0.l
  refine oI 1 X0 d26_0 rfl rfl <| oA 2 X0 d26_1 rfl rfl <| oL 3 X0 F0 d26_2 rfl <| mS 6 0 X0 (rm_au76 G (by decide) (by decide)) (u27 G) all0 d26_3 rfl rfl rfl lr (by decide) all0 ?_
  rintro _ _ _ _ X1 rfl K1 _ _
  refine sk [] rfl <| oA 7 X1 d26_6 rfl rfl <| oI 8 X1 d26_7 rfl rfl ?_
  have f2 := F0.k0 K1
  refine oB 9 (v := (.int pi2)) X1 f2 ⟨by decide, by decide⟩ rfl d26_8 rfl <| o_sipush 12 (v := 255) X1 d26_9 rfl (by decide) <| o_iand 13 (v := (pi2 &&& (255 : Int32))) X1 d26_12 rfl rfl <| o_i2c 14 (v := ((pi2 &&& (255 : Int32)).toUInt32.toUInt16.toUInt32.toInt32)) X1 d26_13 rfl rfl ?_
  exact o_nret (y := ((pi2 &&& (255 : Int32)).toUInt32.toUInt16.toUInt32.toInt32)) (t := .char) X1 d26_14 rfl (own_nc2 rfl) (by simp) (by decide) (by decide) (fun _ CC => rfl)
theorem rm_au185 (G : GL l Z a0 zc fmt) (F0 : ex1 Z h0 pa1) (F1 : fd0 Z h0 pa1 (.int 0)) (F2 : fd1 Z h0 pa1 (.ref pa2)) (F3 : av1 Z h0 pa2 pk1 3 [.int pi1, .int pi2, .int pi3]) : M25 l Z 3 0 0 40 #[.ref pa1, .int 1] h0 n0 [] [] (Q24 Z pi2 h0) := by
  refine mi B25 ef6 (hEW G) fun s X0 hsf0 n0le => ?_
  have := F0.l
  have := F3.l
  refine oA 1 X0 d25_0 rfl rfl <| mV 4 0 X0 F0 (rm_au7 G F1 (by decide)) (u8 G) all0 d25_1 rfl rfl rfl lr (by decide) all0 ?_
  rintro _ _ _ _ X1 rfl K1 _ _
  refine sk [.int 1] rfl <| on 7 X1 d25_4 rfl ((if0 _ _).trans (feq (by decide)).1) <| oA 8 X1 d25_7 rfl rfl ?_
  have f2 := F2.k0 K1
  refine oF 11 X1 (w33 G) Via.refl f2 d25_8 rfl ?_
  intro _ X4
  refine oI 12 X4 d25_11 rfl rfl ?_
  have f5 := F3.k0 K1
  refine mS 15 0 X4 (rm_au184 G f5) (u28 G) all0 d25_12 rfl rfl rfl lr (by decide) all0 ?_
  rintro _ _ _ _ X6 rfl _ _ _
  refine sk [.int ((pi2 &&& (255 : Int32)).toUInt32.toUInt16.toUInt32.toInt32)] rfl ?_
  exact o_nret (y := ((pi2 &&& (255 : Int32)).toUInt32.toUInt16.toUInt32.toInt32)) (t := .char) X6 d25_15 rfl (own_nc2 rfl) (by simp) (by decide) (by decide) (fun _ CC => rfl)
theorem rm_au186 (G : GL l Z a0 zc fmt) (F0 : av1 Z h0 pa1 pk1 3 [.int pi1, .int pi2, .int pi3]) : M26 l Z 2 0 0 27 #[.ref pa1, .int 2] h0 n0 [] [] (Q24 Z pi3 h0) := by
  refine mi B26 ef6 (hEW G) fun s X0 hsf0 n0le => ?_
  have := F0.l
  refine oI 1 X0 d26_0 rfl rfl <| oA 2 X0 d26_1 rfl rfl <| oL 3 X0 F0 d26_2 rfl <| mS 6 0 X0 (rm_au76 G (by decide) (by decide)) (u27 G) all0 d26_3 rfl rfl rfl lr (by decide) all0 ?_
  rintro _ _ _ _ X1 rfl K1 _ _
  refine sk [] rfl <| oA 7 X1 d26_6 rfl rfl <| oI 8 X1 d26_7 rfl rfl ?_
  have f2 := F0.k0 K1
  refine oB 9 (v := (.int pi3)) X1 f2 ⟨by decide, by decide⟩ rfl d26_8 rfl <| o_sipush 12 (v := 255) X1 d26_9 rfl (by decide) <| o_iand 13 (v := (pi3 &&& (255 : Int32))) X1 d26_12 rfl rfl <| o_i2c 14 (v := ((pi3 &&& (255 : Int32)).toUInt32.toUInt16.toUInt32.toInt32)) X1 d26_13 rfl rfl ?_
  exact o_nret (y := ((pi3 &&& (255 : Int32)).toUInt32.toUInt16.toUInt32.toInt32)) (t := .char) X1 d26_14 rfl (own_nc2 rfl) (by simp) (by decide) (by decide) (fun _ CC => rfl)
theorem rm_au187 (G : GL l Z a0 zc fmt) (F0 : ex1 Z h0 pa1) (F1 : fd0 Z h0 pa1 (.int 0)) (F2 : fd1 Z h0 pa1 (.ref pa2)) (F3 : av1 Z h0 pa2 pk1 3 [.int pi1, .int pi2, .int pi3]) : M25 l Z 3 0 0 40 #[.ref pa1, .int 2] h0 n0 [] [] (Q24 Z pi3 h0) := by
  refine mi B25 ef6 (hEW G) fun s X0 hsf0 n0le => ?_
  have := F0.l
  have := F3.l
  refine oA 1 X0 d25_0 rfl rfl <| mV 4 0 X0 F0 (rm_au7 G F1 (by decide)) (u8 G) all0 d25_1 rfl rfl rfl lr (by decide) all0 ?_
  rintro _ _ _ _ X1 rfl K1 _ _
  refine sk [.int 1] rfl <| on 7 X1 d25_4 rfl ((if0 _ _).trans (feq (by decide)).1) <| oA 8 X1 d25_7 rfl rfl ?_
  have f2 := F2.k0 K1
  refine oF 11 X1 (w33 G) Via.refl f2 d25_8 rfl ?_
  intro _ X4
  refine oI 12 X4 d25_11 rfl rfl ?_
  have f5 := F3.k0 K1
  refine mS 15 0 X4 (rm_au186 G f5) (u28 G) all0 d25_12 rfl rfl rfl lr (by decide) all0 ?_
  rintro _ _ _ _ X6 rfl _ _ _
  refine sk [.int ((pi3 &&& (255 : Int32)).toUInt32.toUInt16.toUInt32.toInt32)] rfl ?_
  exact o_nret (y := ((pi3 &&& (255 : Int32)).toUInt32.toUInt16.toUInt32.toInt32)) (t := .char) X6 d25_15 rfl (own_nc2 rfl) (by simp) (by decide) (by decide) (fun _ CC => rfl)
theorem rm_au188 (G : GL l Z a0 zc fmt) (F0 : av1 Z h0 pa1 pk1 4 [.int pi1, .int pi2, .int pi3, .int pi4]) (nk_pi3_46 : ¬ pi3 = (46 : Int32)) (nk_pi4_46 : ¬ pi4 = (46 : Int32)) (pc_0 : pi2 = (46 : Int32)) : M13 l Z 1 0 0 13 #[.ref pa1, .int 46, .int 3] h0 n0 [] [] (Q5 Z  h0) := by
  refine mi B13 ef10 (hEW G) fun s X0 hsf0 n0le => ?_
  have := F0.l
  refine oI 1 X0 d13_0 rfl rfl <| mS 4 0 X0 (rm_au8 G (by decide) (by decide)) (u9 G) all0 d13_1 rfl rfl rfl lr (by decide) all0 ?_
  rintro _ _ _ _ X1 rfl K1 _ _
  refine sk [.int 1] rfl <| oy 9 X1 d13_4 (by decide) ((if0 _ _).trans (feq (by decide)).2) <| oI 10 X1 d13_9 rfl rfl <| oA 11 X1 d13_10 rfl rfl ?_
  have f2 := F0.k0 K1
  refine oL 12 X1 f2 d13_11 rfl <| oc 13 (v := 1) X1 d13_12 rfl (by decide) <| o_isub 14 (v := 3) X1 d13_13 rfl (by decide) <| mS 17 0 X1 (rm_au9 G (by decide)) (u10 G) all0 d13_14 rfl rfl rfl lr (by decide) all0 ?_
  rintro _ _ _ _ X3 rfl K3 _ _
  refine sk [.int 3] rfl <| oT 18 (l' := #[rr pa1, ii 46, ii 3, ii 3]) X3 d13_17 rfl rfl <| oI 19 X3 d13_18 rfl rfl <| on 22 X3 d13_19 rfl ((if0 _ _).trans (flt (by decide)).1) <| oA 23 X3 d13_22 rfl rfl <| oI 24 X3 d13_23 rfl rfl ?_
  have f4 := f2.k0 K3
  refine oB 25 (v := (.int pi4)) X3 f4 ⟨by decide, by decide⟩ rfl d13_24 rfl <| oI 26 X3 d13_25 rfl rfl <| o_i2b 27 (v := 46) X3 d13_26 rfl (by decide) <| oY 32 X3 d13_27 (by decide) (feq nk_pi4_46).2 <| oJ 35 2 #[rr pa1, ii 46, ii 3, ii 2] X3 d13_32 rfl rfl (by decide) rfl <| og 18 X3 d13_35 (by decide) <| oI 19 X3 d13_18 rfl rfl <| on 22 X3 d13_19 rfl ((if0 _ _).trans (flt (by decide)).1) <| oA 23 X3 d13_22 rfl rfl <| oI 24 X3 d13_23 rfl rfl <| oB 25 (v := (.int pi3)) X3 f4 ⟨by decide, by decide⟩ rfl d13_24 rfl <| oI 26 X3 d13_25 rfl rfl ?_
  refine o_i2b 27 (v := 46) X3 d13_26 rfl (by decide) <| oY 32 X3 d13_27 (by decide) (feq nk_pi3_46).2 <| oJ 35 1 #[rr pa1, ii 46, ii 3, ii 1] X3 d13_32 rfl rfl (by decide) rfl <| og 18 X3 d13_35 (by decide) <| oI 19 X3 d13_18 rfl rfl <| on 22 X3 d13_19 rfl ((if0 _ _).trans (flt (by decide)).1) <| oA 23 X3 d13_22 rfl rfl <| oI 24 X3 d13_23 rfl rfl <| oB 25 (v := (.int pi2)) X3 f4 ⟨by decide, by decide⟩ rfl d13_24 rfl <| oI 26 X3 d13_25 rfl rfl <| o_i2b 27 (v := 46) X3 d13_26 rfl (by decide) <| oN 30 X3 d13_27 rfl (teq pc_0).2 ?_
  refine oI 31 X3 d13_30 rfl rfl ?_
  exact o_iret X3 d13_31 rfl (by decide) (by decide) (fun _ CC => rfl)
theorem rm_au189 (G : GL l Z a0 zc fmt) (F0 : ex1 Z h0 pa1) (F1 : fd0 Z h0 pa1 (.int 0)) (F2 : fd1 Z h0 pa1 (.ref pa2)) (F3 : av1 Z h0 pa2 pk1 4 [.int pi1, .int pi2, .int pi3, .int pi4]) (nk_pi3_46 : ¬ pi3 = (46 : Int32)) (nk_pi4_46 : ¬ pi4 = (46 : Int32)) (pc_0 : pi2 = (46 : Int32)) : M11 l Z 2 0 0 28 #[.ref pa1, .int 46, .int 3] h0 n0 [] [] (Q5 Z  h0) := by
  refine mi B11 ef9 (hEW G) fun s X0 hsf0 n0le => ?_
  have := F0.l
  have := F3.l
  refine oA 1 X0 d11_0 rfl rfl <| mV 4 0 X0 F0 (rm_au7 G F1 (by decide)) (u8 G) all0 d11_1 rfl rfl rfl lr (by decide) all0 ?_
  rintro _ _ _ _ X1 rfl K1 _ _
  refine sk [.int 1] rfl <| on 7 X1 d11_4 rfl ((if0 _ _).trans (feq (by decide)).1) <| oA 8 X1 d11_7 rfl rfl ?_
  have f2 := F2.k0 K1
  refine oF 11 X1 (w33 G) Via.refl f2 d11_8 rfl ?_
  intro _ X4
  refine oI 12 X4 d11_11 rfl rfl <| oI 13 X4 d11_12 rfl rfl ?_
  have f5 := F3.k0 K1
  refine mS 16 0 X4 (rm_au188 G f5 nk_pi3_46 nk_pi4_46 pc_0) (u11 G) all0 d11_13 rfl rfl rfl lr (by decide) all0 ?_
  rintro _ _ _ _ X6 rfl _ _ _
  refine sk [.int 1] rfl <| og 28 X6 d11_16 (by decide) ?_
  exact o_iret X6 d11_28 rfl (by decide) (by decide) (fun _ CC => rfl)
theorem rm_au190 (G : GL l Z a0 zc fmt) (F0 : ex1 Z h0 pa1) (F1 : fd0 Z h0 pa1 (.int 0)) (F2 : fd1 Z h0 pa1 (.ref pa2)) (F3 : av1 Z h0 pa2 pk1 4 [.int pi1, .int pi2, .int pi3, .int pi4]) (nk_pi3_46 : ¬ pi3 = (46 : Int32)) (nk_pi4_46 : ¬ pi4 = (46 : Int32)) (pc_0 : pi2 = (46 : Int32)) : M8 l Z 3 0 0 42 #[.ref pa1, .int 46] h0 n0 [] [] (Q5 Z  h0) := by
  refine mi B8 ef6 (hEW G) fun s X0 hsf0 n0le => ?_
  have := F0.l
  have := F3.l
  refine oA 1 X0 d8_0 rfl rfl <| oI 2 X0 d8_1 rfl rfl <| oA 3 X0 d8_2 rfl rfl <| mV 6 2 X0 F0 (rm_au104 G F0 F1 F2 F3) (u7 G) all0 d8_3 rfl rfl rfl lr (by decide) all0 ?_
  rintro _ _ _ _ X1 rfl K1 _ _
  refine sk [.int 4, .int 46, .ref pa1] rfl <| oc 7 (v := 1) X1 d8_6 rfl (by decide) <| o_isub 8 (v := 3) X1 d8_7 rfl (by decide) ?_
  have f2 := F0.keep K1
  have f3 := F1.k0 K1
  have f4 := F2.k0 K1
  have f5 := F3.k0 K1
  refine mV 11 0 X1 f2 (rm_au189 G f2 f3 f4 f5 nk_pi3_46 nk_pi4_46 pc_0) (u12 G) all0 d8_8 rfl rfl rfl lr (by decide) all0 ?_
  rintro _ _ _ _ X6 rfl _ _ _
  refine sk [.int 1] rfl ?_
  exact o_iret X6 d8_11 rfl (by decide) (by decide) (fun _ CC => rfl)
theorem rm_au191 (G : GL l Z a0 zc fmt) (F0 : ex1 Z h0 pa1) (F1 : fd0 Z h0 pa1 (.int 0)) (F2 : fd1 Z h0 pa1 (.ref pa2)) (F3 : av1 Z h0 pa2 pk1 5 [.int pi100, .int pi1, .int pi101, .int pi2, .int pi3]) (nk_pi1_47 : ¬ pi1 = (47 : Int32)) (nk_pi2_46 : ¬ pi2 = (46 : Int32)) (nk_pi2_47 : ¬ pi2 = (47 : Int32)) (nk_pi3_46 : ¬ pi3 = (46 : Int32)) (nk_pi3_47 : ¬ pi3 = (47 : Int32)) (pc_0 : ¬ pi101 = (47 : Int32)) (pc_1 : pi100 = (47 : Int32)) (pc_2 : pi101 = (46 : Int32)) : M7 l Z 6 4 14 115 #[.ref pa1] h0 n0 [] [] (Q23 Z pi2 pi3 h0) := by
  refine mi B7 ef7 (hEW G) fun s X0 hsf0 n0le => ?_
  have := F0.l
  have := F3.l
  refine oA 1 X0 d7_0 rfl rfl <| oA 2 X0 d7_1 rfl rfl <| ob 4 (v := 47) X0 d7_2 rfl (by decide) <| mV 7 1 X0 F0 (rm_au168 G F0 F1 F2 F3 nk_pi1_47 pc_0 nk_pi2_47 nk_pi3_47 pc_1) (u13 G) all0 d7_4 rfl rfl rfl lr (by decide) all0 ?_
  rintro _ _ _ _ X1 rfl K1 _ _
  refine sk [i0, .ref pa1] rfl <| oc 8 (v := 1) X1 d7_7 rfl (by decide) <| o_iadd 9 (v := 1) X1 d7_8 rfl (by decide) ?_
  have f2 := F0.keep K1
  have f3 := F1.k0 K1
  have f4 := F2.k0 K1
  have f5 := F3.k0 K1
  refine mV 12 0 X1 f2 (rm_au173 G f2 f3 f4 f5) (u18 G) all0 d7_9 rfl rfl rfl lr (by decide) all0 ?_
  rintro _ _ _ _ X6 ⟨xa1_7, _, _, rfl, q10, q11, q12, _, q14, _, _, _⟩ _ _ _
  refine sk [.ref xa1_7] rfl <| oV 13 (l' := #[rr pa1, rr xa1_7, uu]) X6 d7_12 rfl rfl rfl <| oA 14 X6 d7_13 rfl rfl <| ob 16 (v := 46) X6 d7_14 rfl (by decide) <| mV 19 0 X6 q10 (rm_au190 G q10 q11 q12 q14 nk_pi2_46 nk_pi3_46 pc_2) (u13 G) all0 d7_16 rfl rfl rfl lr (by decide) all0 ?_
  rintro _ _ _ _ X18 rfl K18 _ _
  refine sk [.int 1] rfl <| oT 20 (l' := #[rr pa1, rr xa1_7, ii 1]) X18 d7_19 rfl rfl <| oI 21 X18 d7_20 rfl rfl <| oy 28 X18 d7_21 (by decide) ((if0 _ _).trans (flt (by decide)).2.1) <| oA 29 X18 d7_28 rfl rfl <| oI 30 X18 d7_29 rfl rfl <| oc 31 (v := 1) X18 d7_30 rfl (by decide) <| o_iadd 32 (v := 2) X18 d7_31 rfl (by decide) ?_
  have f19 := q10.keep K18
  have f20 := q11.k0 K18
  have f21 := q12.k0 K18
  have f22 := q14.k0 K18
  refine mV 35 0 X18 f19 (rm_au140 G f19 f20 f21 f22) (u18 G) all0 d7_32 rfl rfl rfl lr (by decide) all0 ?_
  rintro _ _ _ _ X23 ⟨xa1_24, xa2_25, xk1_26, rfl, q27, q28, q29, q30, q31, q32, q33, _⟩ _ _ _
  refine sk [.ref xa1_24] rfl ?_
  exact oR X23 d7_35 rfl rfl rfl (by decide) (by decide) (fun _ CC => ⟨xa1_24, xa2_25, xk1_26, rfl, q27, q28, q29, (CC.safe (own_lt (by omega)) q30), q31, q32, (CC.safe (own_lt (by omega)) q33), by omega⟩)
theorem rm_au192 (G : GL l Z a0 zc fmt) (F0 : av1 Z h0 pa1 pk1 4 [.int pi1, .int pi2, .int pi3, .int pi4]) (nk_pi4_46 : ¬ pi4 = (46 : Int32)) (pc_0 : pi3 = (46 : Int32)) : M13 l Z 1 0 0 13 #[.ref pa1, .int 46, .int 3] h0 n0 [] [] (Q14 Z  h0) := by
  refine mi B13 ef10 (hEW G) fun s X0 hsf0 n0le => ?_
  have := F0.l
  refine oI 1 X0 d13_0 rfl rfl <| mS 4 0 X0 (rm_au8 G (by decide) (by decide)) (u9 G) all0 d13_1 rfl rfl rfl lr (by decide) all0 ?_
  rintro _ _ _ _ X1 rfl K1 _ _
  refine sk [.int 1] rfl <| oy 9 X1 d13_4 (by decide) ((if0 _ _).trans (feq (by decide)).2) <| oI 10 X1 d13_9 rfl rfl <| oA 11 X1 d13_10 rfl rfl ?_
  have f2 := F0.k0 K1
  refine oL 12 X1 f2 d13_11 rfl <| oc 13 (v := 1) X1 d13_12 rfl (by decide) <| o_isub 14 (v := 3) X1 d13_13 rfl (by decide) <| mS 17 0 X1 (rm_au9 G (by decide)) (u10 G) all0 d13_14 rfl rfl rfl lr (by decide) all0 ?_
  rintro _ _ _ _ X3 rfl K3 _ _
  refine sk [.int 3] rfl <| oT 18 (l' := #[rr pa1, ii 46, ii 3, ii 3]) X3 d13_17 rfl rfl <| oI 19 X3 d13_18 rfl rfl <| on 22 X3 d13_19 rfl ((if0 _ _).trans (flt (by decide)).1) <| oA 23 X3 d13_22 rfl rfl <| oI 24 X3 d13_23 rfl rfl ?_
  have f4 := f2.k0 K3
  refine oB 25 (v := (.int pi4)) X3 f4 ⟨by decide, by decide⟩ rfl d13_24 rfl <| oI 26 X3 d13_25 rfl rfl <| o_i2b 27 (v := 46) X3 d13_26 rfl (by decide) <| oY 32 X3 d13_27 (by decide) (feq nk_pi4_46).2 <| oJ 35 2 #[rr pa1, ii 46, ii 3, ii 2] X3 d13_32 rfl rfl (by decide) rfl <| og 18 X3 d13_35 (by decide) <| oI 19 X3 d13_18 rfl rfl <| on 22 X3 d13_19 rfl ((if0 _ _).trans (flt (by decide)).1) <| oA 23 X3 d13_22 rfl rfl <| oI 24 X3 d13_23 rfl rfl <| oB 25 (v := (.int pi3)) X3 f4 ⟨by decide, by decide⟩ rfl d13_24 rfl <| oI 26 X3 d13_25 rfl rfl ?_
  refine o_i2b 27 (v := 46) X3 d13_26 rfl (by decide) <| oN 30 X3 d13_27 rfl (teq pc_0).2 <| oI 31 X3 d13_30 rfl rfl ?_
  exact o_iret X3 d13_31 rfl (by decide) (by decide) (fun _ CC => rfl)
theorem rm_au193 (G : GL l Z a0 zc fmt) (F0 : ex1 Z h0 pa1) (F1 : fd0 Z h0 pa1 (.int 0)) (F2 : fd1 Z h0 pa1 (.ref pa2)) (F3 : av1 Z h0 pa2 pk1 4 [.int pi1, .int pi2, .int pi3, .int pi4]) (nk_pi4_46 : ¬ pi4 = (46 : Int32)) (pc_0 : pi3 = (46 : Int32)) : M11 l Z 2 0 0 28 #[.ref pa1, .int 46, .int 3] h0 n0 [] [] (Q14 Z  h0) := by
  refine mi B11 ef9 (hEW G) fun s X0 hsf0 n0le => ?_
  have := F0.l
  have := F3.l
  refine oA 1 X0 d11_0 rfl rfl <| mV 4 0 X0 F0 (rm_au7 G F1 (by decide)) (u8 G) all0 d11_1 rfl rfl rfl lr (by decide) all0 ?_
  rintro _ _ _ _ X1 rfl K1 _ _
  refine sk [.int 1] rfl <| on 7 X1 d11_4 rfl ((if0 _ _).trans (feq (by decide)).1) <| oA 8 X1 d11_7 rfl rfl ?_
  have f2 := F2.k0 K1
  refine oF 11 X1 (w33 G) Via.refl f2 d11_8 rfl ?_
  intro _ X4
  refine oI 12 X4 d11_11 rfl rfl <| oI 13 X4 d11_12 rfl rfl ?_
  have f5 := F3.k0 K1
  refine mS 16 0 X4 (rm_au192 G f5 nk_pi4_46 pc_0) (u11 G) all0 d11_13 rfl rfl rfl lr (by decide) all0 ?_
  rintro _ _ _ _ X6 rfl _ _ _
  refine sk [.int 2] rfl <| og 28 X6 d11_16 (by decide) ?_
  exact o_iret X6 d11_28 rfl (by decide) (by decide) (fun _ CC => rfl)
theorem rm_au194 (G : GL l Z a0 zc fmt) (F0 : ex1 Z h0 pa1) (F1 : fd0 Z h0 pa1 (.int 0)) (F2 : fd1 Z h0 pa1 (.ref pa2)) (F3 : av1 Z h0 pa2 pk1 4 [.int pi1, .int pi2, .int pi3, .int pi4]) (nk_pi4_46 : ¬ pi4 = (46 : Int32)) (pc_0 : pi3 = (46 : Int32)) : M8 l Z 3 0 0 42 #[.ref pa1, .int 46] h0 n0 [] [] (Q14 Z  h0) := by
  refine mi B8 ef6 (hEW G) fun s X0 hsf0 n0le => ?_
  have := F0.l
  have := F3.l
  refine oA 1 X0 d8_0 rfl rfl <| oI 2 X0 d8_1 rfl rfl <| oA 3 X0 d8_2 rfl rfl <| mV 6 2 X0 F0 (rm_au104 G F0 F1 F2 F3) (u7 G) all0 d8_3 rfl rfl rfl lr (by decide) all0 ?_
  rintro _ _ _ _ X1 rfl K1 _ _
  refine sk [.int 4, .int 46, .ref pa1] rfl <| oc 7 (v := 1) X1 d8_6 rfl (by decide) <| o_isub 8 (v := 3) X1 d8_7 rfl (by decide) ?_
  have f2 := F0.keep K1
  have f3 := F1.k0 K1
  have f4 := F2.k0 K1
  have f5 := F3.k0 K1
  refine mV 11 0 X1 f2 (rm_au193 G f2 f3 f4 f5 nk_pi4_46 pc_0) (u12 G) all0 d8_8 rfl rfl rfl lr (by decide) all0 ?_
  rintro _ _ _ _ X6 rfl _ _ _
  refine sk [.int 2] rfl ?_
  exact o_iret X6 d8_11 rfl (by decide) (by decide) (fun _ CC => rfl)
theorem rm_au195 (G : GL l Z a0 zc fmt) (F0 : ex1 Z h0 pa1) (F1 : fd0 Z h0 pa1 (.int 0)) (F2 : fd1 Z h0 pa1 (.ref pa2)) (F3 : av1 Z h0 pa2 pk1 5 [.int pi100, .int pi1, .int pi2, .int pi101, .int pi3]) (nk_pi1_47 : ¬ pi1 = (47 : Int32)) (nk_pi2_47 : ¬ pi2 = (47 : Int32)) (nk_pi3_46 : ¬ pi3 = (46 : Int32)) (nk_pi3_47 : ¬ pi3 = (47 : Int32)) (pc_0 : ¬ pi101 = (47 : Int32)) (pc_1 : pi100 = (47 : Int32)) (pc_2 : pi101 = (46 : Int32)) : M7 l Z 6 4 13 115 #[.ref pa1] h0 n0 [] [] (Q17 Z pi3 h0) := by
  refine mi B7 ef7 (hEW G) fun s X0 hsf0 n0le => ?_
  have := F0.l
  have := F3.l
  refine oA 1 X0 d7_0 rfl rfl <| oA 2 X0 d7_1 rfl rfl <| ob 4 (v := 47) X0 d7_2 rfl (by decide) <| mV 7 1 X0 F0 (rm_au168 G F0 F1 F2 F3 nk_pi1_47 nk_pi2_47 pc_0 nk_pi3_47 pc_1) (u13 G) all0 d7_4 rfl rfl rfl lr (by decide) all0 ?_
  rintro _ _ _ _ X1 rfl K1 _ _
  refine sk [i0, .ref pa1] rfl <| oc 8 (v := 1) X1 d7_7 rfl (by decide) <| o_iadd 9 (v := 1) X1 d7_8 rfl (by decide) ?_
  have f2 := F0.keep K1
  have f3 := F1.k0 K1
  have f4 := F2.k0 K1
  have f5 := F3.k0 K1
  refine mV 12 0 X1 f2 (rm_au173 G f2 f3 f4 f5) (u18 G) all0 d7_9 rfl rfl rfl lr (by decide) all0 ?_
  rintro _ _ _ _ X6 ⟨xa1_7, _, _, rfl, q10, q11, q12, _, q14, _, _, _⟩ _ _ _
  refine sk [.ref xa1_7] rfl <| oV 13 (l' := #[rr pa1, rr xa1_7, uu]) X6 d7_12 rfl rfl rfl <| oA 14 X6 d7_13 rfl rfl <| ob 16 (v := 46) X6 d7_14 rfl (by decide) <| mV 19 0 X6 q10 (rm_au194 G q10 q11 q12 q14 nk_pi3_46 pc_2) (u13 G) all0 d7_16 rfl rfl rfl lr (by decide) all0 ?_
  rintro _ _ _ _ X18 rfl K18 _ _
  refine sk [.int 2] rfl <| oT 20 (l' := #[rr pa1, rr xa1_7, ii 2]) X18 d7_19 rfl rfl <| oI 21 X18 d7_20 rfl rfl <| oy 28 X18 d7_21 (by decide) ((if0 _ _).trans (flt (by decide)).2.1) <| oA 29 X18 d7_28 rfl rfl <| oI 30 X18 d7_29 rfl rfl <| oc 31 (v := 1) X18 d7_30 rfl (by decide) <| o_iadd 32 (v := 3) X18 d7_31 rfl (by decide) ?_
  have f19 := q10.keep K18
  have f20 := q11.k0 K18
  have f21 := q12.k0 K18
  have f22 := q14.k0 K18
  refine mV 35 0 X18 f19 (rm_au151 G f19 f20 f21 f22) (u18 G) all0 d7_32 rfl rfl rfl lr (by decide) all0 ?_
  rintro _ _ _ _ X23 ⟨xa1_24, xa2_25, xk1_26, rfl, q27, q28, q29, q30, q31, q32, q33, _⟩ _ _ _
  refine sk [.ref xa1_24] rfl ?_
  exact oR X23 d7_35 rfl rfl rfl (by decide) (by decide) (fun _ CC => ⟨xa1_24, xa2_25, xk1_26, rfl, q27, q28, q29, (CC.safe (own_lt (by omega)) q30), q31, q32, (CC.safe (own_lt (by omega)) q33), by omega⟩)
theorem rm_au196 (G : GL l Z a0 zc fmt) (F0 : av1 Z h0 pa1 pk1 4 [.int pi1, .int pi2, .int pi3, .int pi4]) (pc_0 : pi4 = (46 : Int32)) : M13 l Z 1 0 0 13 #[.ref pa1, .int 46, .int 3] h0 n0 [] [] (Q21 Z  h0) := by
  refine mi B13 ef10 (hEW G) fun s X0 hsf0 n0le => ?_
  have := F0.l
  refine oI 1 X0 d13_0 rfl rfl <| mS 4 0 X0 (rm_au8 G (by decide) (by decide)) (u9 G) all0 d13_1 rfl rfl rfl lr (by decide) all0 ?_
  rintro _ _ _ _ X1 rfl K1 _ _
  refine sk [.int 1] rfl <| oy 9 X1 d13_4 (by decide) ((if0 _ _).trans (feq (by decide)).2) <| oI 10 X1 d13_9 rfl rfl <| oA 11 X1 d13_10 rfl rfl ?_
  have f2 := F0.k0 K1
  refine oL 12 X1 f2 d13_11 rfl <| oc 13 (v := 1) X1 d13_12 rfl (by decide) <| o_isub 14 (v := 3) X1 d13_13 rfl (by decide) <| mS 17 0 X1 (rm_au9 G (by decide)) (u10 G) all0 d13_14 rfl rfl rfl lr (by decide) all0 ?_
  rintro _ _ _ _ X3 rfl K3 _ _
  refine sk [.int 3] rfl <| oT 18 (l' := #[rr pa1, ii 46, ii 3, ii 3]) X3 d13_17 rfl rfl <| oI 19 X3 d13_18 rfl rfl <| on 22 X3 d13_19 rfl ((if0 _ _).trans (flt (by decide)).1) <| oA 23 X3 d13_22 rfl rfl <| oI 24 X3 d13_23 rfl rfl ?_
  have f4 := f2.k0 K3
  refine oB 25 (v := (.int pi4)) X3 f4 ⟨by decide, by decide⟩ rfl d13_24 rfl <| oI 26 X3 d13_25 rfl rfl <| o_i2b 27 (v := 46) X3 d13_26 rfl (by decide) <| oN 30 X3 d13_27 rfl (teq pc_0).2 <| oI 31 X3 d13_30 rfl rfl ?_
  exact o_iret X3 d13_31 rfl (by decide) (by decide) (fun _ CC => rfl)
theorem rm_au197 (G : GL l Z a0 zc fmt) (F0 : ex1 Z h0 pa1) (F1 : fd0 Z h0 pa1 (.int 0)) (F2 : fd1 Z h0 pa1 (.ref pa2)) (F3 : av1 Z h0 pa2 pk1 4 [.int pi1, .int pi2, .int pi3, .int pi4]) (pc_0 : pi4 = (46 : Int32)) : M11 l Z 2 0 0 28 #[.ref pa1, .int 46, .int 3] h0 n0 [] [] (Q21 Z  h0) := by
  refine mi B11 ef9 (hEW G) fun s X0 hsf0 n0le => ?_
  have := F0.l
  have := F3.l
  refine oA 1 X0 d11_0 rfl rfl <| mV 4 0 X0 F0 (rm_au7 G F1 (by decide)) (u8 G) all0 d11_1 rfl rfl rfl lr (by decide) all0 ?_
  rintro _ _ _ _ X1 rfl K1 _ _
  refine sk [.int 1] rfl <| on 7 X1 d11_4 rfl ((if0 _ _).trans (feq (by decide)).1) <| oA 8 X1 d11_7 rfl rfl ?_
  have f2 := F2.k0 K1
  refine oF 11 X1 (w33 G) Via.refl f2 d11_8 rfl ?_
  intro _ X4
  refine oI 12 X4 d11_11 rfl rfl <| oI 13 X4 d11_12 rfl rfl ?_
  have f5 := F3.k0 K1
  refine mS 16 0 X4 (rm_au196 G f5 pc_0) (u11 G) all0 d11_13 rfl rfl rfl lr (by decide) all0 ?_
  rintro _ _ _ _ X6 rfl _ _ _
  refine sk [.int 3] rfl <| og 28 X6 d11_16 (by decide) ?_
  exact o_iret X6 d11_28 rfl (by decide) (by decide) (fun _ CC => rfl)
theorem rm_au198 (G : GL l Z a0 zc fmt) (F0 : ex1 Z h0 pa1) (F1 : fd0 Z h0 pa1 (.int 0)) (F2 : fd1 Z h0 pa1 (.ref pa2)) (F3 : av1 Z h0 pa2 pk1 4 [.int pi1, .int pi2, .int pi3, .int pi4]) (pc_0 : pi4 = (46 : Int32)) : M8 l Z 3 0 0 42 #[.ref pa1, .int 46] h0 n0 [] [] (Q21 Z  h0) := by
  refine mi B8 ef6 (hEW G) fun s X0 hsf0 n0le => ?_
  have := F0.l
  have := F3.l
  refine oA 1 X0 d8_0 rfl rfl <| oI 2 X0 d8_1 rfl rfl <| oA 3 X0 d8_2 rfl rfl <| mV 6 2 X0 F0 (rm_au104 G F0 F1 F2 F3) (u7 G) all0 d8_3 rfl rfl rfl lr (by decide) all0 ?_
  rintro _ _ _ _ X1 rfl K1 _ _
  refine sk [.int 4, .int 46, .ref pa1] rfl <| oc 7 (v := 1) X1 d8_6 rfl (by decide) <| o_isub 8 (v := 3) X1 d8_7 rfl (by decide) ?_
  have f2 := F0.keep K1
  have f3 := F1.k0 K1
  have f4 := F2.k0 K1
  have f5 := F3.k0 K1
  refine mV 11 0 X1 f2 (rm_au197 G f2 f3 f4 f5 pc_0) (u12 G) all0 d8_8 rfl rfl rfl lr (by decide) all0 ?_
  rintro _ _ _ _ X6 rfl _ _ _
  refine sk [.int 3] rfl ?_
  exact o_iret X6 d8_11 rfl (by decide) (by decide) (fun _ CC => rfl)
theorem rm_au199 (G : GL l Z a0 zc fmt) (F0 : ex1 Z h0 pa1) (F1 : fd0 Z h0 pa1 (.int 0)) (F2 : fd1 Z h0 pa1 (.ref pa2)) (F3 : av1 Z h0 pa2 pk1 5 [.int pi100, .int pi1, .int pi2, .int pi3, .int pi101]) (nk_pi1_47 : ¬ pi1 = (47 : Int32)) (nk_pi2_47 : ¬ pi2 = (47 : Int32)) (nk_pi3_47 : ¬ pi3 = (47 : Int32)) (pc_0 : ¬ pi101 = (47 : Int32)) (pc_1 : pi100 = (47 : Int32)) (pc_2 : pi101 = (46 : Int32)) : M7 l Z 6 4 12 115 #[.ref pa1] h0 n0 [] [] (Q8 Z  h0) := by
  refine mi B7 ef7 (hEW G) fun s X0 hsf0 n0le => ?_
  have := F0.l
  have := F3.l
  refine oA 1 X0 d7_0 rfl rfl <| oA 2 X0 d7_1 rfl rfl <| ob 4 (v := 47) X0 d7_2 rfl (by decide) <| mV 7 1 X0 F0 (rm_au168 G F0 F1 F2 F3 nk_pi1_47 nk_pi2_47 nk_pi3_47 pc_0 pc_1) (u13 G) all0 d7_4 rfl rfl rfl lr (by decide) all0 ?_
  rintro _ _ _ _ X1 rfl K1 _ _
  refine sk [i0, .ref pa1] rfl <| oc 8 (v := 1) X1 d7_7 rfl (by decide) <| o_iadd 9 (v := 1) X1 d7_8 rfl (by decide) ?_
  have f2 := F0.keep K1
  have f3 := F1.k0 K1
  have f4 := F2.k0 K1
  have f5 := F3.k0 K1
  refine mV 12 0 X1 f2 (rm_au173 G f2 f3 f4 f5) (u18 G) all0 d7_9 rfl rfl rfl lr (by decide) all0 ?_
  rintro _ _ _ _ X6 ⟨xa1_7, _, _, rfl, q10, q11, q12, _, q14, q15, _, _⟩ _ _ _
  refine sk [.ref xa1_7] rfl <| oV 13 (l' := #[rr pa1, rr xa1_7, uu]) X6 d7_12 rfl rfl rfl <| oA 14 X6 d7_13 rfl rfl <| ob 16 (v := 46) X6 d7_14 rfl (by decide) <| mV 19 0 X6 q10 (rm_au198 G q10 q11 q12 q14 pc_2) (u13 G) all0 d7_16 rfl rfl rfl lr (by decide) all0 ?_
  rintro _ _ _ _ X18 rfl K18 _ _
  refine sk [.int 3] rfl <| oT 20 (l' := #[rr pa1, rr xa1_7, ii 3]) X18 d7_19 rfl rfl <| oI 21 X18 d7_20 rfl rfl <| oy 28 X18 d7_21 (by decide) ((if0 _ _).trans (flt (by decide)).2.1) <| oA 29 X18 d7_28 rfl rfl <| oI 30 X18 d7_29 rfl rfl <| oc 31 (v := 1) X18 d7_30 rfl (by decide) <| o_iadd 32 (v := 4) X18 d7_31 rfl (by decide) ?_
  have f19 := q10.keep K18
  have f20 := q11.k0 K18
  have f21 := q12.k0 K18
  have f22 := q14.k0 K18
  have f23 := q15.keep K18
  refine mV 35 0 X18 f19 (rm_au158 G f19 f20 f21 f22 f23) (u18 G) all0 d7_32 rfl rfl rfl lr (by decide) all0 ?_
  rintro _ _ _ _ X24 ⟨xa1_25, xa2_26, xk1_27, rfl, q28, q29, q30, q31, _⟩ _ _ _
  refine sk [.ref xa1_25] rfl ?_
  exact oR X24 d7_35 rfl rfl rfl (by decide) (by decide) (fun _ CC => ⟨xa1_25, xa2_26, xk1_27, rfl, q28, q29, q30, q31, by omega⟩)
theorem rm_au200 (G : GL l Z a0 zc fmt) (F0 : av1 Z h0 pa1 pk1 5 [.int pi1, .int pi2, .int pi3, .int pi4, .int pi5]) (nk_pi3_47 : ¬ pi3 = (47 : Int32)) (nk_pi4_47 : ¬ pi4 = (47 : Int32)) (nk_pi5_47 : ¬ pi5 = (47 : Int32)) (pc_0 : pi2 = (47 : Int32)) : M13 l Z 1 0 0 13 #[.ref pa1, .int 47, .int 4] h0 n0 [] [] (Q5 Z  h0) := by
  refine mi B13 ef10 (hEW G) fun s X0 hsf0 n0le => ?_
  have := F0.l
  refine oI 1 X0 d13_0 rfl rfl <| mS 4 0 X0 (rm_au8 G (by decide) (by decide)) (u9 G) all0 d13_1 rfl rfl rfl lr (by decide) all0 ?_
  rintro _ _ _ _ X1 rfl K1 _ _
  refine sk [.int 1] rfl <| oy 9 X1 d13_4 (by decide) ((if0 _ _).trans (feq (by decide)).2) <| oI 10 X1 d13_9 rfl rfl <| oA 11 X1 d13_10 rfl rfl ?_
  have f2 := F0.k0 K1
  refine oL 12 X1 f2 d13_11 rfl <| oc 13 (v := 1) X1 d13_12 rfl (by decide) <| o_isub 14 (v := 4) X1 d13_13 rfl (by decide) <| mS 17 0 X1 (rm_au9 G (by decide)) (u10 G) all0 d13_14 rfl rfl rfl lr (by decide) all0 ?_
  rintro _ _ _ _ X3 rfl K3 _ _
  refine sk [.int 4] rfl <| oT 18 (l' := #[rr pa1, ii 47, ii 4, ii 4]) X3 d13_17 rfl rfl <| oI 19 X3 d13_18 rfl rfl <| on 22 X3 d13_19 rfl ((if0 _ _).trans (flt (by decide)).1) <| oA 23 X3 d13_22 rfl rfl <| oI 24 X3 d13_23 rfl rfl ?_
  have f4 := f2.k0 K3
  refine oB 25 (v := (.int pi5)) X3 f4 ⟨by decide, by decide⟩ rfl d13_24 rfl <| oI 26 X3 d13_25 rfl rfl <| o_i2b 27 (v := 47) X3 d13_26 rfl (by decide) <| oY 32 X3 d13_27 (by decide) (feq nk_pi5_47).2 <| oJ 35 3 #[rr pa1, ii 47, ii 4, ii 3] X3 d13_32 rfl rfl (by decide) rfl <| og 18 X3 d13_35 (by decide) <| oI 19 X3 d13_18 rfl rfl <| on 22 X3 d13_19 rfl ((if0 _ _).trans (flt (by decide)).1) <| oA 23 X3 d13_22 rfl rfl <| oI 24 X3 d13_23 rfl rfl <| oB 25 (v := (.int pi4)) X3 f4 ⟨by decide, by decide⟩ rfl d13_24 rfl <| oI 26 X3 d13_25 rfl rfl ?_
  refine o_i2b 27 (v := 47) X3 d13_26 rfl (by decide) <| oY 32 X3 d13_27 (by decide) (feq nk_pi4_47).2 <| oJ 35 2 #[rr pa1, ii 47, ii 4, ii 2] X3 d13_32 rfl rfl (by decide) rfl <| og 18 X3 d13_35 (by decide) <| oI 19 X3 d13_18 rfl rfl <| on 22 X3 d13_19 rfl ((if0 _ _).trans (flt (by decide)).1) <| oA 23 X3 d13_22 rfl rfl <| oI 24 X3 d13_23 rfl rfl <| oB 25 (v := (.int pi3)) X3 f4 ⟨by decide, by decide⟩ rfl d13_24 rfl <| oI 26 X3 d13_25 rfl rfl <| o_i2b 27 (v := 47) X3 d13_26 rfl (by decide) <| oY 32 X3 d13_27 (by decide) (feq nk_pi3_47).2 ?_
  refine oJ 35 1 #[rr pa1, ii 47, ii 4, ii 1] X3 d13_32 rfl rfl (by decide) rfl <| og 18 X3 d13_35 (by decide) <| oI 19 X3 d13_18 rfl rfl <| on 22 X3 d13_19 rfl ((if0 _ _).trans (flt (by decide)).1) <| oA 23 X3 d13_22 rfl rfl <| oI 24 X3 d13_23 rfl rfl <| oB 25 (v := (.int pi2)) X3 f4 ⟨by decide, by decide⟩ rfl d13_24 rfl <| oI 26 X3 d13_25 rfl rfl <| o_i2b 27 (v := 47) X3 d13_26 rfl (by decide) <| oN 30 X3 d13_27 rfl (teq pc_0).2 <| oI 31 X3 d13_30 rfl rfl ?_
  exact o_iret X3 d13_31 rfl (by decide) (by decide) (fun _ CC => rfl)
theorem rm_au201 (G : GL l Z a0 zc fmt) (F0 : ex1 Z h0 pa1) (F1 : fd0 Z h0 pa1 (.int 0)) (F2 : fd1 Z h0 pa1 (.ref pa2)) (F3 : av1 Z h0 pa2 pk1 5 [.int pi1, .int pi2, .int pi3, .int pi4, .int pi5]) (nk_pi3_47 : ¬ pi3 = (47 : Int32)) (nk_pi4_47 : ¬ pi4 = (47 : Int32)) (nk_pi5_47 : ¬ pi5 = (47 : Int32)) (pc_0 : pi2 = (47 : Int32)) : M11 l Z 2 0 0 28 #[.ref pa1, .int 47, .int 4] h0 n0 [] [] (Q5 Z  h0) := by
  refine mi B11 ef9 (hEW G) fun s X0 hsf0 n0le => ?_
  have := F0.l
  have := F3.l
  refine oA 1 X0 d11_0 rfl rfl <| mV 4 0 X0 F0 (rm_au7 G F1 (by decide)) (u8 G) all0 d11_1 rfl rfl rfl lr (by decide) all0 ?_
  rintro _ _ _ _ X1 rfl K1 _ _
  refine sk [.int 1] rfl <| on 7 X1 d11_4 rfl ((if0 _ _).trans (feq (by decide)).1) <| oA 8 X1 d11_7 rfl rfl ?_
  have f2 := F2.k0 K1
  refine oF 11 X1 (w33 G) Via.refl f2 d11_8 rfl ?_
  intro _ X4
  refine oI 12 X4 d11_11 rfl rfl <| oI 13 X4 d11_12 rfl rfl ?_
  have f5 := F3.k0 K1
  refine mS 16 0 X4 (rm_au200 G f5 nk_pi3_47 nk_pi4_47 nk_pi5_47 pc_0) (u11 G) all0 d11_13 rfl rfl rfl lr (by decide) all0 ?_
  rintro _ _ _ _ X6 rfl _ _ _
  refine sk [.int 1] rfl <| og 28 X6 d11_16 (by decide) ?_
  exact o_iret X6 d11_28 rfl (by decide) (by decide) (fun _ CC => rfl)
theorem rm_au202 (G : GL l Z a0 zc fmt) (F0 : ex1 Z h0 pa1) (F1 : fd0 Z h0 pa1 (.int 0)) (F2 : fd1 Z h0 pa1 (.ref pa2)) (F3 : av1 Z h0 pa2 pk1 5 [.int pi1, .int pi2, .int pi3, .int pi4, .int pi5]) (nk_pi3_47 : ¬ pi3 = (47 : Int32)) (nk_pi4_47 : ¬ pi4 = (47 : Int32)) (nk_pi5_47 : ¬ pi5 = (47 : Int32)) (pc_0 : pi2 = (47 : Int32)) : M8 l Z 3 0 0 42 #[.ref pa1, .int 47] h0 n0 [] [] (Q5 Z  h0) := by
  refine mi B8 ef6 (hEW G) fun s X0 hsf0 n0le => ?_
  have := F0.l
  have := F3.l
  refine oA 1 X0 d8_0 rfl rfl <| oI 2 X0 d8_1 rfl rfl <| oA 3 X0 d8_2 rfl rfl <| mV 6 2 X0 F0 (rm_au165 G F0 F1 F2 F3) (u7 G) all0 d8_3 rfl rfl rfl lr (by decide) all0 ?_
  rintro _ _ _ _ X1 rfl K1 _ _
  refine sk [.int 5, .int 47, .ref pa1] rfl <| oc 7 (v := 1) X1 d8_6 rfl (by decide) <| o_isub 8 (v := 4) X1 d8_7 rfl (by decide) ?_
  have f2 := F0.keep K1
  have f3 := F1.k0 K1
  have f4 := F2.k0 K1
  have f5 := F3.k0 K1
  refine mV 11 0 X1 f2 (rm_au201 G f2 f3 f4 f5 nk_pi3_47 nk_pi4_47 nk_pi5_47 pc_0) (u12 G) all0 d8_8 rfl rfl rfl lr (by decide) all0 ?_
  rintro _ _ _ _ X6 rfl _ _ _
  refine sk [.int 1] rfl ?_
  exact o_iret X6 d8_11 rfl (by decide) (by decide) (fun _ CC => rfl)
theorem rm_au203 (G : GL l Z a0 zc fmt) (F0 : av1 Z h0 pa1 pk1 5 [.int pi1, .int pi2, .int pi3, .int pi4, .int pi5]) : M22 l Z 1 1 3 40 #[.ref pa1, .int 2, .int 5] h0 n0 [] [] (Q29 Z pi3 pi4 pi5 h0) := by
  refine mi B22 ef13 (hEW G) fun s X0 hsf0 n0le => ?_
  have := F0.l
  refine oI 1 X0 d22_0 rfl rfl <| oI 2 X0 d22_1 rfl rfl <| mS 5 0 X0 (rm_au32 G (by decide)) (u20 G) all0 d22_2 rfl rfl rfl lr (by decide) all0 ?_
  rintro _ _ _ _ X1 rfl K1 _ _
  refine sk [] rfl <| oI 6 X1 d22_5 rfl rfl <| oI 7 X1 d22_6 rfl rfl <| o_isub 8 (v := 3) X1 d22_7 rfl (by decide) <| oT 9 (l' := #[rr pa1, ii 2, ii 5, ii 3, uu]) X1 d22_8 rfl rfl <| oI 10 X1 d22_9 rfl rfl <| nP (aty := .byte) 12 3 X1 (w24 G) d22_10 rfl (by decide) had_byte ?_
  intro _ h2 b2 k2 X2 _ _ E2 V2 A2 _ S2
  have V3 : av1 Z h2 b2 k2 3 [i0, i0, i0] := V2.pad (pad_rep [] (.int (0 : Int32)) 3)
  refine oU 14 (l' := #[rr pa1, ii 2, ii 5, ii 3, rr b2]) X2 d22_12 rfl rfl rfl <| oA 15 X2 d22_14 rfl rfl <| oI 16 X2 d22_15 rfl rfl <| oa 18 X2 d22_16 rfl rfl <| oc 19 (v := 0) X2 d22_18 rfl (by decide) <| oA 20 X2 d22_19 rfl rfl ?_
  have f4 := (F0.k0 K1).ext E2
  refine oL 21 X2 f4 d22_20 rfl <| oI 22 X2 d22_21 rfl rfl <| o_isub 23 (v := 3) X2 d22_22 rfl (by decide) <| oI 24 X2 d22_23 rfl rfl <| mS 27 4 X2 (rm_au9 G (by decide)) (u21 G) all0 d22_24 rfl rfl rfl lr (by decide) all0 ?_
  rintro _ _ _ _ X5 rfl K5 _ C5
  refine sk [.int 3, i0, .ref b2, .int 2, .ref pa1] rfl ?_
  have f6 := f4.k0 K5
  have f7 := V3.k0 K5
  have f8 := C5.safe (own_lt (by omega)) S2
  refine o_cp 30 (us := [.int pi3, .int pi4, .int pi5]) (vr := [.int pi3, .int pi4, .int pi5]) (W := 0) X5 (w111 G) (w114 G) (w112 G) (w113 G) f6 f7 (Or.inl ⟨rfl, rfl⟩) (by decide) (by decide) (by decide) (by decide) (by decide) rfl (Nat.le_of_ble_eq_true rfl) rfl d22_27 rfl rfl (by decide) (Nat.le_of_eq rfl) (by decide) (by omega) (Or.inr (by omega)) f8 ?_
  intro _ _ X9 K9 C9 V9
  have := K9.1
  refine oa 32 X9 d22_30 rfl rfl ?_
  have f10 := (A2.keep K5).keep K9
  have f11 := C9.safe (own_lt (by omega)) f8
  exact oR X9 d22_32 rfl rfl rfl (by decide) (by decide) (fun _ CC => ⟨b2, k2, rfl, V9, f10, (CC.safe (own_lt (by omega)) f11), by omega⟩)
theorem rm_au204 (G : GL l Z a0 zc fmt) (F0 : av1 Z h0 pa1 pk1 5 [.int pi1, .int pi2, .int pi3, .int pi4, .int pi5]) : M21 l Z 2 1 3 56 #[.ref pa1, .int 2, .int 5] h0 n0 [] [] (Q29 Z pi3 pi4 pi5 h0) := by
  refine mi B21 ef9 (hEW G) fun s X0 hsf0 n0le => ?_
  have := F0.l
  refine oI 1 X0 d21_0 rfl rfl <| oy 10 X0 d21_1 (by decide) ((if0 _ _).trans (feq (by decide)).2) <| oA 11 X0 d21_10 rfl rfl <| oI 12 X0 d21_11 rfl rfl <| oI 13 X0 d21_12 rfl rfl <| mS 16 0 X0 (rm_au203 G F0) (u22 G) all0 d21_13 rfl rfl rfl lr (by decide) all0 ?_
  rintro _ _ _ _ X1 ⟨xa1_2, xk1_3, rfl, q4, q5, q6, _⟩ _ _ _
  refine sk [.ref xa1_2] rfl ?_
  exact oR X1 d21_16 rfl rfl rfl (by decide) (by decide) (fun _ CC => ⟨xa1_2, xk1_3, rfl, q4, q5, (CC.safe (own_lt (by omega)) q6), by omega⟩)
theorem rm_au205 (G : GL l Z a0 zc fmt) (F0 : av1 Z h0 pa1 pk1 5 [.int pi1, .int pi2, .int pi3, .int pi4, .int pi5]) : M20 l Z 3 2 7 72 #[.ref pa1, .int 2, .int 3] h0 n0 [] [] (Q30 Z pi3 pi4 pi5 h0) := by
  refine mi B20 ef9 (hEW G) fun s X0 hsf0 n0le => ?_
  have l1 := F0.l
  refine oI 1 X0 d20_0 rfl rfl <| oy 7 X0 d20_1 (by decide) ((if0 _ _).trans (feq (by decide)).2) <| o_new 10 X0 (w99 G) (w7 G) (w8 G) d20_7 rfl (by decide) (by decide) ?_
  intro _ h1 b1 X1 _ l1 E1 A1 D1 _ _ S1
  have f2 : fd0 Z h1 b1 (.int 0) := D1 (Or.inr (w32 G)) fd_0
  have f3 : fd1 Z h1 b1 .null := D1 (Or.inr (w34 G)) fd_1
  refine oD 11 X1 d20_10 rfl rfl <| oA 12 X1 d20_11 rfl rfl <| oI 13 X1 d20_12 rfl rfl <| oI 14 X1 d20_13 rfl rfl <| oI 15 X1 d20_14 rfl rfl <| o_iadd 16 (v := 5) X1 d20_15 rfl (by decide) ?_
  have f4 := F0.ext E1
  refine mS 19 2 X1 (rm_au204 G f4) (u23 G) all0 d20_16 rfl rfl rfl lr (by decide) all0 ?_
  rintro _ _ _ _ X5 ⟨xa1_6, xk1_7, rfl, q8, q9, q10, _⟩ K5 _ C5
  refine sk [.ref xa1_6, .ref b1, .ref b1] rfl <| oc 20 (v := 0) X5 d20_19 rfl (by decide) ?_
  have f12 := A1.keep K5
  have f13 := f2.k0 K5
  have f14 := f3.k0 K5
  have f15 := C5.safe (own_lt (by omega)) S1
  refine mP 23 1 X5 (rm_au35 G f12 f13 f14 (by omega)) (u24 G) (sS (by omega) f15 all0) d20_20 rfl rfl rfl lr (by decide) (aR (by omega) all0) ?_
  rintro _ _ _ _ X16 ⟨rfl, q17, q18, q19⟩ K16 _ C16
  refine sk [.ref b1] rfl ?_
  have f20 := C16.safe (own_lt (by omega)) f15
  have f21 := q8.k1 K16 (by omega)
  have f22 := q9.keep K16
  have f23 := C16.safe (own_lt (by omega)) q10
  exact oR X16 d20_23 rfl rfl rfl (by decide) (by decide) (fun _ CC => ⟨b1, xa1_6, xk1_7, rfl, q17, q18, q19, (CC.safe (own_lt (by omega)) f20), f21, f22, (CC.safe (own_lt (by omega)) f23), by omega⟩)
theorem rm_au206 (G : GL l Z a0 zc fmt) (F0 : ex1 Z h0 pa1) (F1 : fd0 Z h0 pa1 (.int 0)) (F2 : fd1 Z h0 pa1 (.ref pa2)) (F3 : av1 Z h0 pa2 pk1 5 [.int pi1, .int pi2, .int pi3, .int pi4, .int pi5]) : M17 l Z 4 2 7 86 #[.ref pa1, .int 2, .int 5] h0 n0 [] [] (Q30 Z pi3 pi4 pi5 h0) := by
  refine mi B17 ef13 (hEW G) fun s X0 hsf0 n0le => ?_
  have := F0.l
  have := F3.l
  refine oA 1 X0 d17_0 rfl rfl <| mV 4 0 X0 F0 (rm_au165 G F0 F1 F2 F3) (u7 G) all0 d17_1 rfl rfl rfl lr (by decide) all0 ?_
  rintro _ _ _ _ X1 rfl K1 _ _
  refine sk [.int 5] rfl <| oT 5 (l' := #[rr pa1, ii 2, ii 5, ii 5, uu]) X1 d17_4 rfl rfl <| oI 6 X1 d17_5 rfl rfl <| oI 7 X1 d17_6 rfl rfl <| oI 8 X1 d17_7 rfl rfl <| mS 11 0 X1 (rm_au14 G (by decide) (by decide) (by decide)) (u15 G) all0 d17_8 rfl rfl rfl lr (by decide) all0 ?_
  rintro _ _ _ _ X2 rfl K2 _ _
  refine sk [] rfl <| oI 12 X2 d17_11 rfl rfl <| oy 22 X2 d17_12 (by decide) ((if0 _ _).trans (feq (by decide)).2) <| oI 23 X2 d17_22 rfl rfl <| oI 24 X2 d17_23 rfl rfl <| o_isub 25 (v := 3) X2 d17_24 rfl (by decide) <| oS 27 (l' := #[rr pa1, ii 2, ii 5, ii 5, ii 3]) X2 d17_25 rfl rfl <| oA 28 X2 d17_27 rfl rfl ?_
  have f3 := (F1.k0 K1).k0 K2
  have f4 := (F0.keep K1).keep K2
  refine mV 31 0 X2 f4 (rm_au7 G f3 (by decide)) (u8 G) all0 d17_28 rfl rfl rfl lr (by decide) all0 ?_
  rintro _ _ _ _ X5 rfl K5 _ _
  refine sk [.int 1] rfl <| on 34 X5 d17_31 rfl ((if0 _ _).trans (feq (by decide)).1) <| oA 35 X5 d17_34 rfl rfl ?_
  have f6 := ((F2.k0 K1).k0 K2).k0 K5
  refine oF 38 X5 (w33 G) Via.refl f6 d17_35 rfl ?_
  intro _ X8
  refine oI 39 X8 d17_38 rfl rfl <| oi 41 X8 d17_39 rfl rfl ?_
  have f9 := ((F3.k0 K1).k0 K2).k0 K5
  refine mS 44 0 X8 (rm_au205 G f9) (u16 G) all0 d17_41 rfl rfl rfl lr (by decide) all0 ?_
  rintro _ _ _ _ X10 ⟨xa1_11, xa2_12, xk1_13, rfl, q14, q15, q16, q17, q18, q19, q20, _⟩ _ _ _
  refine sk [.ref xa1_11] rfl <| og 57 X10 d17_44 (by decide) ?_
  exact oR X10 d17_57 rfl rfl rfl (by decide) (by decide) (fun _ CC => ⟨xa1_11, xa2_12, xk1_13, rfl, q14, q15, q16, (CC.safe (own_lt (by omega)) q17), q18, q19, (CC.safe (own_lt (by omega)) q20), by omega⟩)
theorem rm_au207 (G : GL l Z a0 zc fmt) (F0 : ex1 Z h0 pa1) (F1 : fd0 Z h0 pa1 (.int 0)) (F2 : fd1 Z h0 pa1 (.ref pa2)) (F3 : av1 Z h0 pa2 pk1 5 [.int pi1, .int pi2, .int pi3, .int pi4, .int pi5]) : M16 l Z 5 2 7 102 #[.ref pa1, .int 2] h0 n0 [] [] (Q30 Z pi3 pi4 pi5 h0) := by
  refine mi B16 ef6 (hEW G) fun s X0 hsf0 n0le => ?_
  have := F0.l
  have := F3.l
  refine oA 1 X0 d16_0 rfl rfl <| oI 2 X0 d16_1 rfl rfl <| oA 3 X0 d16_2 rfl rfl <| mV 6 2 X0 F0 (rm_au165 G F0 F1 F2 F3) (u7 G) all0 d16_3 rfl rfl rfl lr (by decide) all0 ?_
  rintro _ _ _ _ X1 rfl K1 _ _
  refine sk [.int 5, .int 2, .ref pa1] rfl ?_
  have f2 := F0.keep K1
  have f3 := F1.k0 K1
  have f4 := F2.k0 K1
  have f5 := F3.k0 K1
  refine mV 9 0 X1 f2 (rm_au206 G f2 f3 f4 f5) (u17 G) all0 d16_6 rfl rfl rfl lr (by decide) all0 ?_
  rintro _ _ _ _ X6 ⟨xa1_7, xa2_8, xk1_9, rfl, q10, q11, q12, q13, q14, q15, q16, _⟩ _ _ _
  refine sk [.ref xa1_7] rfl ?_
  exact oR X6 d16_9 rfl rfl rfl (by decide) (by decide) (fun _ CC => ⟨xa1_7, xa2_8, xk1_9, rfl, q10, q11, q12, (CC.safe (own_lt (by omega)) q13), q14, q15, (CC.safe (own_lt (by omega)) q16), by omega⟩)
theorem rm_au208 (G : GL l Z a0 zc fmt) (F0 : ex1 Z h0 pa1) (F1 : fd0 Z h0 pa1 (.int 0)) (F2 : fd1 Z h0 pa1 (.ref pa2)) (F3 : av1 Z h0 pa2 pk1 5 [.int pi100, .int pi101, .int pi1, .int pi2, .int pi3]) (nk_pi1_46 : ¬ pi1 = (46 : Int32)) (nk_pi1_47 : ¬ pi1 = (47 : Int32)) (nk_pi2_46 : ¬ pi2 = (46 : Int32)) (nk_pi2_47 : ¬ pi2 = (47 : Int32)) (nk_pi3_46 : ¬ pi3 = (46 : Int32)) (nk_pi3_47 : ¬ pi3 = (47 : Int32)) (pc_0 : pi101 = (47 : Int32)) : M7 l Z 6 2 7 115 #[.ref pa1] h0 n0 [] [] (Q10 Z  h0) := by
  refine mi B7 ef7 (hEW G) fun s X0 hsf0 n0le => ?_
  have := F0.l
  have := F3.l
  refine oA 1 X0 d7_0 rfl rfl <| oA 2 X0 d7_1 rfl rfl <| ob 4 (v := 47) X0 d7_2 rfl (by decide) <| mV 7 1 X0 F0 (rm_au202 G F0 F1 F2 F3 nk_pi1_47 nk_pi2_47 nk_pi3_47 pc_0) (u13 G) all0 d7_4 rfl rfl rfl lr (by decide) all0 ?_
  rintro _ _ _ _ X1 rfl K1 _ _
  refine sk [.int 1, .ref pa1] rfl <| oc 8 (v := 1) X1 d7_7 rfl (by decide) <| o_iadd 9 (v := 2) X1 d7_8 rfl (by decide) ?_
  have f2 := F0.keep K1
  have f3 := F1.k0 K1
  have f4 := F2.k0 K1
  have f5 := F3.k0 K1
  refine mV 12 0 X1 f2 (rm_au207 G f2 f3 f4 f5) (u18 G) all0 d7_9 rfl rfl rfl lr (by decide) all0 ?_
  rintro _ _ _ _ X6 ⟨xa1_7, _, _, rfl, q10, q11, q12, _, q14, _, _, _⟩ _ _ _
  refine sk [.ref xa1_7] rfl <| oV 13 (l' := #[rr pa1, rr xa1_7, uu]) X6 d7_12 rfl rfl rfl <| oA 14 X6 d7_13 rfl rfl <| ob 16 (v := 46) X6 d7_14 rfl (by decide) <| mV 19 0 X6 q10 (rm_au115 G q10 q11 q12 q14 nk_pi1_46 nk_pi2_46 nk_pi3_46) (u13 G) all0 d7_16 rfl rfl rfl lr (by decide) all0 ?_
  rintro _ _ _ _ X18 rfl _ _ _
  refine sk [.int (-1)] rfl <| oT 20 (l' := #[rr pa1, rr xa1_7, ii (-1)]) X18 d7_19 rfl rfl <| oI 21 X18 d7_20 rfl rfl <| on 24 X18 d7_21 rfl ((if0 _ _).trans (tlt (by decide)).2.1) <| o_aconstNull 25 X18 d7_24 rfl <| og 35 X18 d7_25 (by decide) ?_
  exact oR X18 d7_35 rfl rfl rfl (by decide) (by decide) (fun _ CC => rfl)
theorem rm_au209 (G : GL l Z a0 zc fmt) (F0 : ex1 Z h0 pa1) (F1 : fd0 Z h0 pa1 (.int 0)) (F2 : fd1 Z h0 pa1 (.ref pa2)) (F3 : av1 Z h0 pa2 pk1 5 [.int pi100, .int pi101, .int pi102, .int pi1, .int pi2]) (nk_pi1_46 : ¬ pi1 = (46 : Int32)) (nk_pi1_47 : ¬ pi1 = (47 : Int32)) (nk_pi2_46 : ¬ pi2 = (46 : Int32)) (nk_pi2_47 : ¬ pi2 = (47 : Int32)) (pc_0 : ¬ pi102 = (47 : Int32)) (pc_1 : pi101 = (47 : Int32)) (pc_2 : pi102 = (46 : Int32)) : M7 l Z 6 4 13 115 #[.ref pa1] h0 n0 [] [] (Q23 Z pi1 pi2 h0) := by
  refine mi B7 ef7 (hEW G) fun s X0 hsf0 n0le => ?_
  have := F0.l
  have := F3.l
  refine oA 1 X0 d7_0 rfl rfl <| oA 2 X0 d7_1 rfl rfl <| ob 4 (v := 47) X0 d7_2 rfl (by decide) <| mV 7 1 X0 F0 (rm_au202 G F0 F1 F2 F3 pc_0 nk_pi1_47 nk_pi2_47 pc_1) (u13 G) all0 d7_4 rfl rfl rfl lr (by decide) all0 ?_
  rintro _ _ _ _ X1 rfl K1 _ _
  refine sk [.int 1, .ref pa1] rfl <| oc 8 (v := 1) X1 d7_7 rfl (by decide) <| o_iadd 9 (v := 2) X1 d7_8 rfl (by decide) ?_
  have f2 := F0.keep K1
  have f3 := F1.k0 K1
  have f4 := F2.k0 K1
  have f5 := F3.k0 K1
  refine mV 12 0 X1 f2 (rm_au207 G f2 f3 f4 f5) (u18 G) all0 d7_9 rfl rfl rfl lr (by decide) all0 ?_
  rintro _ _ _ _ X6 ⟨xa1_7, _, _, rfl, q10, q11, q12, _, q14, _, _, _⟩ _ _ _
  refine sk [.ref xa1_7] rfl <| oV 13 (l' := #[rr pa1, rr xa1_7, uu]) X6 d7_12 rfl rfl rfl <| oA 14 X6 d7_13 rfl rfl <| ob 16 (v := 46) X6 d7_14 rfl (by decide) <| mV 19 0 X6 q10 (rm_au119 G q10 q11 q12 q14 nk_pi1_46 nk_pi2_46 pc_2) (u13 G) all0 d7_16 rfl rfl rfl lr (by decide) all0 ?_
  rintro _ _ _ _ X18 rfl K18 _ _
  refine sk [i0] rfl <| oT 20 (l' := #[rr pa1, rr xa1_7, ii 0]) X18 d7_19 rfl rfl <| oI 21 X18 d7_20 rfl rfl <| oy 28 X18 d7_21 (by decide) ((if0 _ _).trans (flt (by decide)).2.1) <| oA 29 X18 d7_28 rfl rfl <| oI 30 X18 d7_29 rfl rfl <| oc 31 (v := 1) X18 d7_30 rfl (by decide) <| o_iadd 32 (v := 1) X18 d7_31 rfl (by decide) ?_
  have f19 := q10.keep K18
  have f20 := q11.k0 K18
  have f21 := q12.k0 K18
  have f22 := q14.k0 K18
  refine mV 35 0 X18 f19 (rm_au66 G f19 f20 f21 f22) (u18 G) all0 d7_32 rfl rfl rfl lr (by decide) all0 ?_
  rintro _ _ _ _ X23 ⟨xa1_24, xa2_25, xk1_26, rfl, q27, q28, q29, q30, q31, q32, q33, _⟩ _ _ _
  refine sk [.ref xa1_24] rfl ?_
  exact oR X23 d7_35 rfl rfl rfl (by decide) (by decide) (fun _ CC => ⟨xa1_24, xa2_25, xk1_26, rfl, q27, q28, q29, (CC.safe (own_lt (by omega)) q30), q31, q32, (CC.safe (own_lt (by omega)) q33), by omega⟩)
theorem rm_au210 (G : GL l Z a0 zc fmt) (F0 : ex1 Z h0 pa1) (F1 : fd0 Z h0 pa1 (.int 0)) (F2 : fd1 Z h0 pa1 (.ref pa2)) (F3 : av1 Z h0 pa2 pk1 5 [.int pi100, .int pi101, .int pi1, .int pi102, .int pi2]) (nk_pi1_47 : ¬ pi1 = (47 : Int32)) (nk_pi2_46 : ¬ pi2 = (46 : Int32)) (nk_pi2_47 : ¬ pi2 = (47 : Int32)) (pc_0 : ¬ pi102 = (47 : Int32)) (pc_1 : pi101 = (47 : Int32)) (pc_2 : pi102 = (46 : Int32)) : M7 l Z 6 4 12 115 #[.ref pa1] h0 n0 [] [] (Q17 Z pi2 h0) := by
  refine mi B7 ef7 (hEW G) fun s X0 hsf0 n0le => ?_
  have := F0.l
  have := F3.l
  refine oA 1 X0 d7_0 rfl rfl <| oA 2 X0 d7_1 rfl rfl <| ob 4 (v := 47) X0 d7_2 rfl (by decide) <| mV 7 1 X0 F0 (rm_au202 G F0 F1 F2 F3 nk_pi1_47 pc_0 nk_pi2_47 pc_1) (u13 G) all0 d7_4 rfl rfl rfl lr (by decide) all0 ?_
  rintro _ _ _ _ X1 rfl K1 _ _
  refine sk [.int 1, .ref pa1] rfl <| oc 8 (v := 1) X1 d7_7 rfl (by decide) <| o_iadd 9 (v := 2) X1 d7_8 rfl (by decide) ?_
  have f2 := F0.keep K1
  have f3 := F1.k0 K1
  have f4 := F2.k0 K1
  have f5 := F3.k0 K1
  refine mV 12 0 X1 f2 (rm_au207 G f2 f3 f4 f5) (u18 G) all0 d7_9 rfl rfl rfl lr (by decide) all0 ?_
  rintro _ _ _ _ X6 ⟨xa1_7, _, _, rfl, q10, q11, q12, _, q14, _, _, _⟩ _ _ _
  refine sk [.ref xa1_7] rfl <| oV 13 (l' := #[rr pa1, rr xa1_7, uu]) X6 d7_12 rfl rfl rfl <| oA 14 X6 d7_13 rfl rfl <| ob 16 (v := 46) X6 d7_14 rfl (by decide) <| mV 19 0 X6 q10 (rm_au127 G q10 q11 q12 q14 nk_pi2_46 pc_2) (u13 G) all0 d7_16 rfl rfl rfl lr (by decide) all0 ?_
  rintro _ _ _ _ X18 rfl K18 _ _
  refine sk [.int 1] rfl <| oT 20 (l' := #[rr pa1, rr xa1_7, ii 1]) X18 d7_19 rfl rfl <| oI 21 X18 d7_20 rfl rfl <| oy 28 X18 d7_21 (by decide) ((if0 _ _).trans (flt (by decide)).2.1) <| oA 29 X18 d7_28 rfl rfl <| oI 30 X18 d7_29 rfl rfl <| oc 31 (v := 1) X18 d7_30 rfl (by decide) <| o_iadd 32 (v := 2) X18 d7_31 rfl (by decide) ?_
  have f19 := q10.keep K18
  have f20 := q11.k0 K18
  have f21 := q12.k0 K18
  have f22 := q14.k0 K18
  refine mV 35 0 X18 f19 (rm_au90 G f19 f20 f21 f22) (u18 G) all0 d7_32 rfl rfl rfl lr (by decide) all0 ?_
  rintro _ _ _ _ X23 ⟨xa1_24, xa2_25, xk1_26, rfl, q27, q28, q29, q30, q31, q32, q33, _⟩ _ _ _
  refine sk [.ref xa1_24] rfl ?_
  exact oR X23 d7_35 rfl rfl rfl (by decide) (by decide) (fun _ CC => ⟨xa1_24, xa2_25, xk1_26, rfl, q27, q28, q29, (CC.safe (own_lt (by omega)) q30), q31, q32, (CC.safe (own_lt (by omega)) q33), by omega⟩)
theorem rm_au211 (G : GL l Z a0 zc fmt) (F0 : ex1 Z h0 pa1) (F1 : fd0 Z h0 pa1 (.int 0)) (F2 : fd1 Z h0 pa1 (.ref pa2)) (F3 : av1 Z h0 pa2 pk1 5 [.int pi100, .int pi101, .int pi1, .int pi2, .int pi102]) (nk_pi1_47 : ¬ pi1 = (47 : Int32)) (nk_pi2_47 : ¬ pi2 = (47 : Int32)) (pc_0 : ¬ pi102 = (47 : Int32)) (pc_1 : pi101 = (47 : Int32)) (pc_2 : pi102 = (46 : Int32)) : M7 l Z 6 4 11 115 #[.ref pa1] h0 n0 [] [] (Q8 Z  h0) := by
  refine mi B7 ef7 (hEW G) fun s X0 hsf0 n0le => ?_
  have := F0.l
  have := F3.l
  refine oA 1 X0 d7_0 rfl rfl <| oA 2 X0 d7_1 rfl rfl <| ob 4 (v := 47) X0 d7_2 rfl (by decide) <| mV 7 1 X0 F0 (rm_au202 G F0 F1 F2 F3 nk_pi1_47 nk_pi2_47 pc_0 pc_1) (u13 G) all0 d7_4 rfl rfl rfl lr (by decide) all0 ?_
  rintro _ _ _ _ X1 rfl K1 _ _
  refine sk [.int 1, .ref pa1] rfl <| oc 8 (v := 1) X1 d7_7 rfl (by decide) <| o_iadd 9 (v := 2) X1 d7_8 rfl (by decide) ?_
  have f2 := F0.keep K1
  have f3 := F1.k0 K1
  have f4 := F2.k0 K1
  have f5 := F3.k0 K1
  refine mV 12 0 X1 f2 (rm_au207 G f2 f3 f4 f5) (u18 G) all0 d7_9 rfl rfl rfl lr (by decide) all0 ?_
  rintro _ _ _ _ X6 ⟨xa1_7, _, _, rfl, q10, q11, q12, _, q14, q15, _, _⟩ _ _ _
  refine sk [.ref xa1_7] rfl <| oV 13 (l' := #[rr pa1, rr xa1_7, uu]) X6 d7_12 rfl rfl rfl <| oA 14 X6 d7_13 rfl rfl <| ob 16 (v := 46) X6 d7_14 rfl (by decide) <| mV 19 0 X6 q10 (rm_au131 G q10 q11 q12 q14 pc_2) (u13 G) all0 d7_16 rfl rfl rfl lr (by decide) all0 ?_
  rintro _ _ _ _ X18 rfl K18 _ _
  refine sk [.int 2] rfl <| oT 20 (l' := #[rr pa1, rr xa1_7, ii 2]) X18 d7_19 rfl rfl <| oI 21 X18 d7_20 rfl rfl <| oy 28 X18 d7_21 (by decide) ((if0 _ _).trans (flt (by decide)).2.1) <| oA 29 X18 d7_28 rfl rfl <| oI 30 X18 d7_29 rfl rfl <| oc 31 (v := 1) X18 d7_30 rfl (by decide) <| o_iadd 32 (v := 3) X18 d7_31 rfl (by decide) ?_
  have f19 := q10.keep K18
  have f20 := q11.k0 K18
  have f21 := q12.k0 K18
  have f22 := q14.k0 K18
  have f23 := q15.keep K18
  refine mV 35 0 X18 f19 (rm_au97 G f19 f20 f21 f22 f23) (u18 G) all0 d7_32 rfl rfl rfl lr (by decide) all0 ?_
  rintro _ _ _ _ X24 ⟨xa1_25, xa2_26, xk1_27, rfl, q28, q29, q30, q31, _⟩ _ _ _
  refine sk [.ref xa1_25] rfl ?_
  exact oR X24 d7_35 rfl rfl rfl (by decide) (by decide) (fun _ CC => ⟨xa1_25, xa2_26, xk1_27, rfl, q28, q29, q30, q31, by omega⟩)
theorem rm_au212 (G : GL l Z a0 zc fmt) (F0 : av1 Z h0 pa1 pk1 5 [.int pi1, .int pi2, .int pi3, .int pi4, .int pi5]) (nk_pi4_47 : ¬ pi4 = (47 : Int32)) (nk_pi5_47 : ¬ pi5 = (47 : Int32)) (pc_0 : pi3 = (47 : Int32)) : M13 l Z 1 0 0 13 #[.ref pa1, .int 47, .int 4] h0 n0 [] [] (Q14 Z  h0) := by
  refine mi B13 ef10 (hEW G) fun s X0 hsf0 n0le => ?_
  have := F0.l
  refine oI 1 X0 d13_0 rfl rfl <| mS 4 0 X0 (rm_au8 G (by decide) (by decide)) (u9 G) all0 d13_1 rfl rfl rfl lr (by decide) all0 ?_
  rintro _ _ _ _ X1 rfl K1 _ _
  refine sk [.int 1] rfl <| oy 9 X1 d13_4 (by decide) ((if0 _ _).trans (feq (by decide)).2) <| oI 10 X1 d13_9 rfl rfl <| oA 11 X1 d13_10 rfl rfl ?_
  have f2 := F0.k0 K1
  refine oL 12 X1 f2 d13_11 rfl <| oc 13 (v := 1) X1 d13_12 rfl (by decide) <| o_isub 14 (v := 4) X1 d13_13 rfl (by decide) <| mS 17 0 X1 (rm_au9 G (by decide)) (u10 G) all0 d13_14 rfl rfl rfl lr (by decide) all0 ?_
  rintro _ _ _ _ X3 rfl K3 _ _
  refine sk [.int 4] rfl <| oT 18 (l' := #[rr pa1, ii 47, ii 4, ii 4]) X3 d13_17 rfl rfl <| oI 19 X3 d13_18 rfl rfl <| on 22 X3 d13_19 rfl ((if0 _ _).trans (flt (by decide)).1) <| oA 23 X3 d13_22 rfl rfl <| oI 24 X3 d13_23 rfl rfl ?_
  have f4 := f2.k0 K3
  refine oB 25 (v := (.int pi5)) X3 f4 ⟨by decide, by decide⟩ rfl d13_24 rfl <| oI 26 X3 d13_25 rfl rfl <| o_i2b 27 (v := 47) X3 d13_26 rfl (by decide) <| oY 32 X3 d13_27 (by decide) (feq nk_pi5_47).2 <| oJ 35 3 #[rr pa1, ii 47, ii 4, ii 3] X3 d13_32 rfl rfl (by decide) rfl <| og 18 X3 d13_35 (by decide) <| oI 19 X3 d13_18 rfl rfl <| on 22 X3 d13_19 rfl ((if0 _ _).trans (flt (by decide)).1) <| oA 23 X3 d13_22 rfl rfl <| oI 24 X3 d13_23 rfl rfl <| oB 25 (v := (.int pi4)) X3 f4 ⟨by decide, by decide⟩ rfl d13_24 rfl <| oI 26 X3 d13_25 rfl rfl ?_
  refine o_i2b 27 (v := 47) X3 d13_26 rfl (by decide) <| oY 32 X3 d13_27 (by decide) (feq nk_pi4_47).2 <| oJ 35 2 #[rr pa1, ii 47, ii 4, ii 2] X3 d13_32 rfl rfl (by decide) rfl <| og 18 X3 d13_35 (by decide) <| oI 19 X3 d13_18 rfl rfl <| on 22 X3 d13_19 rfl ((if0 _ _).trans (flt (by decide)).1) <| oA 23 X3 d13_22 rfl rfl <| oI 24 X3 d13_23 rfl rfl <| oB 25 (v := (.int pi3)) X3 f4 ⟨by decide, by decide⟩ rfl d13_24 rfl <| oI 26 X3 d13_25 rfl rfl <| o_i2b 27 (v := 47) X3 d13_26 rfl (by decide) <| oN 30 X3 d13_27 rfl (teq pc_0).2 ?_
  refine oI 31 X3 d13_30 rfl rfl ?_
  exact o_iret X3 d13_31 rfl (by decide) (by decide) (fun _ CC => rfl)
theorem rm_au213 (G : GL l Z a0 zc fmt) (F0 : ex1 Z h0 pa1) (F1 : fd0 Z h0 pa1 (.int 0)) (F2 : fd1 Z h0 pa1 (.ref pa2)) (F3 : av1 Z h0 pa2 pk1 5 [.int pi1, .int pi2, .int pi3, .int pi4, .int pi5]) (nk_pi4_47 : ¬ pi4 = (47 : Int32)) (nk_pi5_47 : ¬ pi5 = (47 : Int32)) (pc_0 : pi3 = (47 : Int32)) : M11 l Z 2 0 0 28 #[.ref pa1, .int 47, .int 4] h0 n0 [] [] (Q14 Z  h0) := by
  refine mi B11 ef9 (hEW G) fun s X0 hsf0 n0le => ?_
  have := F0.l
  have := F3.l
  refine oA 1 X0 d11_0 rfl rfl <| mV 4 0 X0 F0 (rm_au7 G F1 (by decide)) (u8 G) all0 d11_1 rfl rfl rfl lr (by decide) all0 ?_
  rintro _ _ _ _ X1 rfl K1 _ _
  refine sk [.int 1] rfl <| on 7 X1 d11_4 rfl ((if0 _ _).trans (feq (by decide)).1) <| oA 8 X1 d11_7 rfl rfl ?_
  have f2 := F2.k0 K1
  refine oF 11 X1 (w33 G) Via.refl f2 d11_8 rfl ?_
  intro _ X4
  refine oI 12 X4 d11_11 rfl rfl <| oI 13 X4 d11_12 rfl rfl ?_
  have f5 := F3.k0 K1
  refine mS 16 0 X4 (rm_au212 G f5 nk_pi4_47 nk_pi5_47 pc_0) (u11 G) all0 d11_13 rfl rfl rfl lr (by decide) all0 ?_
  rintro _ _ _ _ X6 rfl _ _ _
  refine sk [.int 2] rfl <| og 28 X6 d11_16 (by decide) ?_
  exact o_iret X6 d11_28 rfl (by decide) (by decide) (fun _ CC => rfl)
theorem rm_au214 (G : GL l Z a0 zc fmt) (F0 : ex1 Z h0 pa1) (F1 : fd0 Z h0 pa1 (.int 0)) (F2 : fd1 Z h0 pa1 (.ref pa2)) (F3 : av1 Z h0 pa2 pk1 5 [.int pi1, .int pi2, .int pi3, .int pi4, .int pi5]) (nk_pi4_47 : ¬ pi4 = (47 : Int32)) (nk_pi5_47 : ¬ pi5 = (47 : Int32)) (pc_0 : pi3 = (47 : Int32)) : M8 l Z 3 0 0 42 #[.ref pa1, .int 47] h0 n0 [] [] (Q14 Z  h0) := by
  refine mi B8 ef6 (hEW G) fun s X0 hsf0 n0le => ?_
  have := F0.l
  have := F3.l
  refine oA 1 X0 d8_0 rfl rfl <| oI 2 X0 d8_1 rfl rfl <| oA 3 X0 d8_2 rfl rfl <| mV 6 2 X0 F0 (rm_au165 G F0 F1 F2 F3) (u7 G) all0 d8_3 rfl rfl rfl lr (by decide) all0 ?_
  rintro _ _ _ _ X1 rfl K1 _ _
  refine sk [.int 5, .int 47, .ref pa1] rfl <| oc 7 (v := 1) X1 d8_6 rfl (by decide) <| o_isub 8 (v := 4) X1 d8_7 rfl (by decide) ?_
  have f2 := F0.keep K1
  have f3 := F1.k0 K1
  have f4 := F2.k0 K1
  have f5 := F3.k0 K1
  refine mV 11 0 X1 f2 (rm_au213 G f2 f3 f4 f5 nk_pi4_47 nk_pi5_47 pc_0) (u12 G) all0 d8_8 rfl rfl rfl lr (by decide) all0 ?_
  rintro _ _ _ _ X6 rfl _ _ _
  refine sk [.int 2] rfl ?_
  exact o_iret X6 d8_11 rfl (by decide) (by decide) (fun _ CC => rfl)
theorem rm_au215 (G : GL l Z a0 zc fmt) (F0 : av1 Z h0 pa1 pk1 5 [.int pi1, .int pi2, .int pi3, .int pi4, .int pi5]) : M22 l Z 1 1 2 40 #[.ref pa1, .int 3, .int 5] h0 n0 [] [] (Q22 Z pi4 pi5 h0) := by
  refine mi B22 ef13 (hEW G) fun s X0 hsf0 n0le => ?_
  have := F0.l
  refine oI 1 X0 d22_0 rfl rfl <| oI 2 X0 d22_1 rfl rfl <| mS 5 0 X0 (rm_au32 G (by decide)) (u20 G) all0 d22_2 rfl rfl rfl lr (by decide) all0 ?_
  rintro _ _ _ _ X1 rfl K1 _ _
  refine sk [] rfl <| oI 6 X1 d22_5 rfl rfl <| oI 7 X1 d22_6 rfl rfl <| o_isub 8 (v := 2) X1 d22_7 rfl (by decide) <| oT 9 (l' := #[rr pa1, ii 3, ii 5, ii 2, uu]) X1 d22_8 rfl rfl <| oI 10 X1 d22_9 rfl rfl <| nP (aty := .byte) 12 2 X1 (w24 G) d22_10 rfl (by decide) had_byte ?_
  intro _ h2 b2 k2 X2 _ _ E2 V2 A2 _ S2
  have V3 : av1 Z h2 b2 k2 2 [i0, i0] := V2.pad (pad_rep [] (.int (0 : Int32)) 2)
  refine oU 14 (l' := #[rr pa1, ii 3, ii 5, ii 2, rr b2]) X2 d22_12 rfl rfl rfl <| oA 15 X2 d22_14 rfl rfl <| oI 16 X2 d22_15 rfl rfl <| oa 18 X2 d22_16 rfl rfl <| oc 19 (v := 0) X2 d22_18 rfl (by decide) <| oA 20 X2 d22_19 rfl rfl ?_
  have f4 := (F0.k0 K1).ext E2
  refine oL 21 X2 f4 d22_20 rfl <| oI 22 X2 d22_21 rfl rfl <| o_isub 23 (v := 2) X2 d22_22 rfl (by decide) <| oI 24 X2 d22_23 rfl rfl <| mS 27 4 X2 (rm_au9 G (by decide)) (u21 G) all0 d22_24 rfl rfl rfl lr (by decide) all0 ?_
  rintro _ _ _ _ X5 rfl K5 _ C5
  refine sk [.int 2, i0, .ref b2, .int 3, .ref pa1] rfl ?_
  have f6 := f4.k0 K5
  have f7 := V3.k0 K5
  have f8 := C5.safe (own_lt (by omega)) S2
  refine o_cp 30 (us := [.int pi4, .int pi5]) (vr := [.int pi4, .int pi5]) (W := 0) X5 (w111 G) (w114 G) (w112 G) (w113 G) f6 f7 (Or.inl ⟨rfl, rfl⟩) (by decide) (by decide) (by decide) (by decide) (by decide) rfl (Nat.le_of_ble_eq_true rfl) rfl d22_27 rfl rfl (by decide) (Nat.le_of_eq rfl) (by decide) (by omega) (Or.inr (by omega)) f8 ?_
  intro _ _ X9 K9 C9 V9
  have := K9.1
  refine oa 32 X9 d22_30 rfl rfl ?_
  have f10 := (A2.keep K5).keep K9
  have f11 := C9.safe (own_lt (by omega)) f8
  exact oR X9 d22_32 rfl rfl rfl (by decide) (by decide) (fun _ CC => ⟨b2, k2, rfl, V9, f10, (CC.safe (own_lt (by omega)) f11), by omega⟩)
theorem rm_au216 (G : GL l Z a0 zc fmt) (F0 : av1 Z h0 pa1 pk1 5 [.int pi1, .int pi2, .int pi3, .int pi4, .int pi5]) : M21 l Z 2 1 2 56 #[.ref pa1, .int 3, .int 5] h0 n0 [] [] (Q22 Z pi4 pi5 h0) := by
  refine mi B21 ef9 (hEW G) fun s X0 hsf0 n0le => ?_
  have := F0.l
  refine oI 1 X0 d21_0 rfl rfl <| oy 10 X0 d21_1 (by decide) ((if0 _ _).trans (feq (by decide)).2) <| oA 11 X0 d21_10 rfl rfl <| oI 12 X0 d21_11 rfl rfl <| oI 13 X0 d21_12 rfl rfl <| mS 16 0 X0 (rm_au215 G F0) (u22 G) all0 d21_13 rfl rfl rfl lr (by decide) all0 ?_
  rintro _ _ _ _ X1 ⟨xa1_2, xk1_3, rfl, q4, q5, q6, _⟩ _ _ _
  refine sk [.ref xa1_2] rfl ?_
  exact oR X1 d21_16 rfl rfl rfl (by decide) (by decide) (fun _ CC => ⟨xa1_2, xk1_3, rfl, q4, q5, (CC.safe (own_lt (by omega)) q6), by omega⟩)
theorem rm_au217 (G : GL l Z a0 zc fmt) (F0 : av1 Z h0 pa1 pk1 5 [.int pi1, .int pi2, .int pi3, .int pi4, .int pi5]) : M20 l Z 3 2 6 72 #[.ref pa1, .int 3, .int 2] h0 n0 [] [] (Q23 Z pi4 pi5 h0) := by
  refine mi B20 ef9 (hEW G) fun s X0 hsf0 n0le => ?_
  have l1 := F0.l
  refine oI 1 X0 d20_0 rfl rfl <| oy 7 X0 d20_1 (by decide) ((if0 _ _).trans (feq (by decide)).2) <| o_new 10 X0 (w99 G) (w7 G) (w8 G) d20_7 rfl (by decide) (by decide) ?_
  intro _ h1 b1 X1 _ l1 E1 A1 D1 _ _ S1
  have f2 : fd0 Z h1 b1 (.int 0) := D1 (Or.inr (w32 G)) fd_0
  have f3 : fd1 Z h1 b1 .null := D1 (Or.inr (w34 G)) fd_1
  refine oD 11 X1 d20_10 rfl rfl <| oA 12 X1 d20_11 rfl rfl <| oI 13 X1 d20_12 rfl rfl <| oI 14 X1 d20_13 rfl rfl <| oI 15 X1 d20_14 rfl rfl <| o_iadd 16 (v := 5) X1 d20_15 rfl (by decide) ?_
  have f4 := F0.ext E1
  refine mS 19 2 X1 (rm_au216 G f4) (u23 G) all0 d20_16 rfl rfl rfl lr (by decide) all0 ?_
  rintro _ _ _ _ X5 ⟨xa1_6, xk1_7, rfl, q8, q9, q10, _⟩ K5 _ C5
  refine sk [.ref xa1_6, .ref b1, .ref b1] rfl <| oc 20 (v := 0) X5 d20_19 rfl (by decide) ?_
  have f12 := A1.keep K5
  have f13 := f2.k0 K5
  have f14 := f3.k0 K5
  have f15 := C5.safe (own_lt (by omega)) S1
  refine mP 23 1 X5 (rm_au35 G f12 f13 f14 (by omega)) (u24 G) (sS (by omega) f15 all0) d20_20 rfl rfl rfl lr (by decide) (aR (by omega) all0) ?_
  rintro _ _ _ _ X16 ⟨rfl, q17, q18, q19⟩ K16 _ C16
  refine sk [.ref b1] rfl ?_
  have f20 := C16.safe (own_lt (by omega)) f15
  have f21 := q8.k1 K16 (by omega)
  have f22 := q9.keep K16
  have f23 := C16.safe (own_lt (by omega)) q10
  exact oR X16 d20_23 rfl rfl rfl (by decide) (by decide) (fun _ CC => ⟨b1, xa1_6, xk1_7, rfl, q17, q18, q19, (CC.safe (own_lt (by omega)) f20), f21, f22, (CC.safe (own_lt (by omega)) f23), by omega⟩)
theorem rm_au218 (G : GL l Z a0 zc fmt) (F0 : ex1 Z h0 pa1) (F1 : fd0 Z h0 pa1 (.int 0)) (F2 : fd1 Z h0 pa1 (.ref pa2)) (F3 : av1 Z h0 pa2 pk1 5 [.int pi1, .int pi2, .int pi3, .int pi4, .int pi5]) : M17 l Z 4 2 6 86 #[.ref pa1, .int 3, .int 5] h0 n0 [] [] (Q23 Z pi4 pi5 h0) := by
  refine mi B17 ef13 (hEW G) fun s X0 hsf0 n0le => ?_
  have := F0.l
  have := F3.l
  refine oA 1 X0 d17_0 rfl rfl <| mV 4 0 X0 F0 (rm_au165 G F0 F1 F2 F3) (u7 G) all0 d17_1 rfl rfl rfl lr (by decide) all0 ?_
  rintro _ _ _ _ X1 rfl K1 _ _
  refine sk [.int 5] rfl <| oT 5 (l' := #[rr pa1, ii 3, ii 5, ii 5, uu]) X1 d17_4 rfl rfl <| oI 6 X1 d17_5 rfl rfl <| oI 7 X1 d17_6 rfl rfl <| oI 8 X1 d17_7 rfl rfl <| mS 11 0 X1 (rm_au14 G (by decide) (by decide) (by decide)) (u15 G) all0 d17_8 rfl rfl rfl lr (by decide) all0 ?_
  rintro _ _ _ _ X2 rfl K2 _ _
  refine sk [] rfl <| oI 12 X2 d17_11 rfl rfl <| oy 22 X2 d17_12 (by decide) ((if0 _ _).trans (feq (by decide)).2) <| oI 23 X2 d17_22 rfl rfl <| oI 24 X2 d17_23 rfl rfl <| o_isub 25 (v := 2) X2 d17_24 rfl (by decide) <| oS 27 (l' := #[rr pa1, ii 3, ii 5, ii 5, ii 2]) X2 d17_25 rfl rfl <| oA 28 X2 d17_27 rfl rfl ?_
  have f3 := (F1.k0 K1).k0 K2
  have f4 := (F0.keep K1).keep K2
  refine mV 31 0 X2 f4 (rm_au7 G f3 (by decide)) (u8 G) all0 d17_28 rfl rfl rfl lr (by decide) all0 ?_
  rintro _ _ _ _ X5 rfl K5 _ _
  refine sk [.int 1] rfl <| on 34 X5 d17_31 rfl ((if0 _ _).trans (feq (by decide)).1) <| oA 35 X5 d17_34 rfl rfl ?_
  have f6 := ((F2.k0 K1).k0 K2).k0 K5
  refine oF 38 X5 (w33 G) Via.refl f6 d17_35 rfl ?_
  intro _ X8
  refine oI 39 X8 d17_38 rfl rfl <| oi 41 X8 d17_39 rfl rfl ?_
  have f9 := ((F3.k0 K1).k0 K2).k0 K5
  refine mS 44 0 X8 (rm_au217 G f9) (u16 G) all0 d17_41 rfl rfl rfl lr (by decide) all0 ?_
  rintro _ _ _ _ X10 ⟨xa1_11, xa2_12, xk1_13, rfl, q14, q15, q16, q17, q18, q19, q20, _⟩ _ _ _
  refine sk [.ref xa1_11] rfl <| og 57 X10 d17_44 (by decide) ?_
  exact oR X10 d17_57 rfl rfl rfl (by decide) (by decide) (fun _ CC => ⟨xa1_11, xa2_12, xk1_13, rfl, q14, q15, q16, (CC.safe (own_lt (by omega)) q17), q18, q19, (CC.safe (own_lt (by omega)) q20), by omega⟩)
theorem rm_au219 (G : GL l Z a0 zc fmt) (F0 : ex1 Z h0 pa1) (F1 : fd0 Z h0 pa1 (.int 0)) (F2 : fd1 Z h0 pa1 (.ref pa2)) (F3 : av1 Z h0 pa2 pk1 5 [.int pi1, .int pi2, .int pi3, .int pi4, .int pi5]) : M16 l Z 5 2 6 102 #[.ref pa1, .int 3] h0 n0 [] [] (Q23 Z pi4 pi5 h0) := by
  refine mi B16 ef6 (hEW G) fun s X0 hsf0 n0le => ?_
  have := F0.l
  have := F3.l
  refine oA 1 X0 d16_0 rfl rfl <| oI 2 X0 d16_1 rfl rfl <| oA 3 X0 d16_2 rfl rfl <| mV 6 2 X0 F0 (rm_au165 G F0 F1 F2 F3) (u7 G) all0 d16_3 rfl rfl rfl lr (by decide) all0 ?_
  rintro _ _ _ _ X1 rfl K1 _ _
  refine sk [.int 5, .int 3, .ref pa1] rfl ?_
  have f2 := F0.keep K1
  have f3 := F1.k0 K1
  have f4 := F2.k0 K1
  have f5 := F3.k0 K1
  refine mV 9 0 X1 f2 (rm_au218 G f2 f3 f4 f5) (u17 G) all0 d16_6 rfl rfl rfl lr (by decide) all0 ?_
  rintro _ _ _ _ X6 ⟨xa1_7, xa2_8, xk1_9, rfl, q10, q11, q12, q13, q14, q15, q16, _⟩ _ _ _
  refine sk [.ref xa1_7] rfl ?_
  exact oR X6 d16_9 rfl rfl rfl (by decide) (by decide) (fun _ CC => ⟨xa1_7, xa2_8, xk1_9, rfl, q10, q11, q12, (CC.safe (own_lt (by omega)) q13), q14, q15, (CC.safe (own_lt (by omega)) q16), by omega⟩)
theorem rm_au220 (G : GL l Z a0 zc fmt) (F0 : ex1 Z h0 pa1) (F1 : fd0 Z h0 pa1 (.int 0)) (F2 : fd1 Z h0 pa1 (.ref pa2)) (F3 : av1 Z h0 pa2 pk1 5 [.int pi100, .int pi1, .int pi101, .int pi2, .int pi3]) (nk_pi2_46 : ¬ pi2 = (46 : Int32)) (nk_pi2_47 : ¬ pi2 = (47 : Int32)) (nk_pi3_46 : ¬ pi3 = (46 : Int32)) (nk_pi3_47 : ¬ pi3 = (47 : Int32)) (pc_0 : pi101 = (47 : Int32)) : M7 l Z 6 2 6 115 #[.ref pa1] h0 n0 [] [] (Q10 Z  h0) := by
  refine mi B7 ef7 (hEW G) fun s X0 hsf0 n0le => ?_
  have := F0.l
  have := F3.l
  refine oA 1 X0 d7_0 rfl rfl <| oA 2 X0 d7_1 rfl rfl <| ob 4 (v := 47) X0 d7_2 rfl (by decide) <| mV 7 1 X0 F0 (rm_au214 G F0 F1 F2 F3 nk_pi2_47 nk_pi3_47 pc_0) (u13 G) all0 d7_4 rfl rfl rfl lr (by decide) all0 ?_
  rintro _ _ _ _ X1 rfl K1 _ _
  refine sk [.int 2, .ref pa1] rfl <| oc 8 (v := 1) X1 d7_7 rfl (by decide) <| o_iadd 9 (v := 3) X1 d7_8 rfl (by decide) ?_
  have f2 := F0.keep K1
  have f3 := F1.k0 K1
  have f4 := F2.k0 K1
  have f5 := F3.k0 K1
  refine mV 12 0 X1 f2 (rm_au219 G f2 f3 f4 f5) (u18 G) all0 d7_9 rfl rfl rfl lr (by decide) all0 ?_
  rintro _ _ _ _ X6 ⟨xa1_7, _, _, rfl, q10, q11, q12, _, q14, _, _, _⟩ _ _ _
  refine sk [.ref xa1_7] rfl <| oV 13 (l' := #[rr pa1, rr xa1_7, uu]) X6 d7_12 rfl rfl rfl <| oA 14 X6 d7_13 rfl rfl <| ob 16 (v := 46) X6 d7_14 rfl (by decide) <| mV 19 0 X6 q10 (rm_au69 G q10 q11 q12 q14 nk_pi2_46 nk_pi3_46) (u13 G) all0 d7_16 rfl rfl rfl lr (by decide) all0 ?_
  rintro _ _ _ _ X18 rfl _ _ _
  refine sk [.int (-1)] rfl <| oT 20 (l' := #[rr pa1, rr xa1_7, ii (-1)]) X18 d7_19 rfl rfl <| oI 21 X18 d7_20 rfl rfl <| on 24 X18 d7_21 rfl ((if0 _ _).trans (tlt (by decide)).2.1) <| o_aconstNull 25 X18 d7_24 rfl <| og 35 X18 d7_25 (by decide) ?_
  exact oR X18 d7_35 rfl rfl rfl (by decide) (by decide) (fun _ CC => rfl)
theorem rm_au221 (G : GL l Z a0 zc fmt) (F0 : ex1 Z h0 pa1) (F1 : fd0 Z h0 pa1 (.int 0)) (F2 : fd1 Z h0 pa1 (.ref pa2)) (F3 : av1 Z h0 pa2 pk1 5 [.int pi100, .int pi1, .int pi101, .int pi102, .int pi2]) (nk_pi2_46 : ¬ pi2 = (46 : Int32)) (nk_pi2_47 : ¬ pi2 = (47 : Int32)) (pc_0 : ¬ pi102 = (47 : Int32)) (pc_1 : pi101 = (47 : Int32)) (pc_2 : pi102 = (46 : Int32)) : M7 l Z 6 4 11 115 #[.ref pa1] h0 n0 [] [] (Q17 Z pi2 h0) := by
  refine mi B7 ef7 (hEW G) fun s X0 hsf0 n0le => ?_
  have := F0.l
  have := F3.l
  refine oA 1 X0 d7_0 rfl rfl <| oA 2 X0 d7_1 rfl rfl <| ob 4 (v := 47) X0 d7_2 rfl (by decide) <| mV 7 1 X0 F0 (rm_au214 G F0 F1 F2 F3 pc_0 nk_pi2_47 pc_1) (u13 G) all0 d7_4 rfl rfl rfl lr (by decide) all0 ?_
  rintro _ _ _ _ X1 rfl K1 _ _
  refine sk [.int 2, .ref pa1] rfl <| oc 8 (v := 1) X1 d7_7 rfl (by decide) <| o_iadd 9 (v := 3) X1 d7_8 rfl (by decide) ?_
  have f2 := F0.keep K1
  have f3 := F1.k0 K1
  have f4 := F2.k0 K1
  have f5 := F3.k0 K1
  refine mV 12 0 X1 f2 (rm_au219 G f2 f3 f4 f5) (u18 G) all0 d7_9 rfl rfl rfl lr (by decide) all0 ?_
  rintro _ _ _ _ X6 ⟨xa1_7, _, _, rfl, q10, q11, q12, _, q14, _, _, _⟩ _ _ _
  refine sk [.ref xa1_7] rfl <| oV 13 (l' := #[rr pa1, rr xa1_7, uu]) X6 d7_12 rfl rfl rfl <| oA 14 X6 d7_13 rfl rfl <| ob 16 (v := 46) X6 d7_14 rfl (by decide) <| mV 19 0 X6 q10 (rm_au73 G q10 q11 q12 q14 nk_pi2_46 pc_2) (u13 G) all0 d7_16 rfl rfl rfl lr (by decide) all0 ?_
  rintro _ _ _ _ X18 rfl K18 _ _
  refine sk [i0] rfl <| oT 20 (l' := #[rr pa1, rr xa1_7, ii 0]) X18 d7_19 rfl rfl <| oI 21 X18 d7_20 rfl rfl <| oy 28 X18 d7_21 (by decide) ((if0 _ _).trans (flt (by decide)).2.1) <| oA 29 X18 d7_28 rfl rfl <| oI 30 X18 d7_29 rfl rfl <| oc 31 (v := 1) X18 d7_30 rfl (by decide) <| o_iadd 32 (v := 1) X18 d7_31 rfl (by decide) ?_
  have f19 := q10.keep K18
  have f20 := q11.k0 K18
  have f21 := q12.k0 K18
  have f22 := q14.k0 K18
  refine mV 35 0 X18 f19 (rm_au38 G f19 f20 f21 f22) (u18 G) all0 d7_32 rfl rfl rfl lr (by decide) all0 ?_
  rintro _ _ _ _ X23 ⟨xa1_24, xa2_25, xk1_26, rfl, q27, q28, q29, q30, q31, q32, q33, _⟩ _ _ _
  refine sk [.ref xa1_24] rfl ?_
  exact oR X23 d7_35 rfl rfl rfl (by decide) (by decide) (fun _ CC => ⟨xa1_24, xa2_25, xk1_26, rfl, q27, q28, q29, (CC.safe (own_lt (by omega)) q30), q31, q32, (CC.safe (own_lt (by omega)) q33), by omega⟩)
theorem rm_au222 (G : GL l Z a0 zc fmt) (F0 : ex1 Z h0 pa1) (F1 : fd0 Z h0 pa1 (.int 0)) (F2 : fd1 Z h0 pa1 (.ref pa2)) (F3 : av1 Z h0 pa2 pk1 5 [.int pi100, .int pi1, .int pi101, .int pi2, .int pi102]) (nk_pi2_47 : ¬ pi2 = (47 : Int32)) (pc_0 : ¬ pi102 = (47 : Int32)) (pc_1 : pi101 = (47 : Int32)) (pc_2 : pi102 = (46 : Int32)) : M7 l Z 6 4 10 115 #[.ref pa1] h0 n0 [] [] (Q8 Z  h0) := by
  refine mi B7 ef7 (hEW G) fun s X0 hsf0 n0le => ?_
  have := F0.l
  have := F3.l
  refine oA 1 X0 d7_0 rfl rfl <| oA 2 X0 d7_1 rfl rfl <| ob 4 (v := 47) X0 d7_2 rfl (by decide) <| mV 7 1 X0 F0 (rm_au214 G F0 F1 F2 F3 nk_pi2_47 pc_0 pc_1) (u13 G) all0 d7_4 rfl rfl rfl lr (by decide) all0 ?_
  rintro _ _ _ _ X1 rfl K1 _ _
  refine sk [.int 2, .ref pa1] rfl <| oc 8 (v := 1) X1 d7_7 rfl (by decide) <| o_iadd 9 (v := 3) X1 d7_8 rfl (by decide) ?_
  have f2 := F0.keep K1
  have f3 := F1.k0 K1
  have f4 := F2.k0 K1
  have f5 := F3.k0 K1
  refine mV 12 0 X1 f2 (rm_au219 G f2 f3 f4 f5) (u18 G) all0 d7_9 rfl rfl rfl lr (by decide) all0 ?_
  rintro _ _ _ _ X6 ⟨xa1_7, _, _, rfl, q10, q11, q12, _, q14, q15, _, _⟩ _ _ _
  refine sk [.ref xa1_7] rfl <| oV 13 (l' := #[rr pa1, rr xa1_7, uu]) X6 d7_12 rfl rfl rfl <| oA 14 X6 d7_13 rfl rfl <| ob 16 (v := 46) X6 d7_14 rfl (by decide) <| mV 19 0 X6 q10 (rm_au81 G q10 q11 q12 q14 pc_2) (u13 G) all0 d7_16 rfl rfl rfl lr (by decide) all0 ?_
  rintro _ _ _ _ X18 rfl K18 _ _
  refine sk [.int 1] rfl <| oT 20 (l' := #[rr pa1, rr xa1_7, ii 1]) X18 d7_19 rfl rfl <| oI 21 X18 d7_20 rfl rfl <| oy 28 X18 d7_21 (by decide) ((if0 _ _).trans (flt (by decide)).2.1) <| oA 29 X18 d7_28 rfl rfl <| oI 30 X18 d7_29 rfl rfl <| oc 31 (v := 1) X18 d7_30 rfl (by decide) <| o_iadd 32 (v := 2) X18 d7_31 rfl (by decide) ?_
  have f19 := q10.keep K18
  have f20 := q11.k0 K18
  have f21 := q12.k0 K18
  have f22 := q14.k0 K18
  have f23 := q15.keep K18
  refine mV 35 0 X18 f19 (rm_au51 G f19 f20 f21 f22 f23) (u18 G) all0 d7_32 rfl rfl rfl lr (by decide) all0 ?_
  rintro _ _ _ _ X24 ⟨xa1_25, xa2_26, xk1_27, rfl, q28, q29, q30, q31, _⟩ _ _ _
  refine sk [.ref xa1_25] rfl ?_
  exact oR X24 d7_35 rfl rfl rfl (by decide) (by decide) (fun _ CC => ⟨xa1_25, xa2_26, xk1_27, rfl, q28, q29, q30, q31, by omega⟩)
theorem rm_au223 (G : GL l Z a0 zc fmt) (F0 : av1 Z h0 pa1 pk1 5 [.int pi1, .int pi2, .int pi3, .int pi4, .int pi5]) (nk_pi5_47 : ¬ pi5 = (47 : Int32)) (pc_0 : pi4 = (47 : Int32)) : M13 l Z 1 0 0 13 #[.ref pa1, .int 47, .int 4] h0 n0 [] [] (Q21 Z  h0) := by
  refine mi B13 ef10 (hEW G) fun s X0 hsf0 n0le => ?_
  have := F0.l
  refine oI 1 X0 d13_0 rfl rfl <| mS 4 0 X0 (rm_au8 G (by decide) (by decide)) (u9 G) all0 d13_1 rfl rfl rfl lr (by decide) all0 ?_
  rintro _ _ _ _ X1 rfl K1 _ _
  refine sk [.int 1] rfl <| oy 9 X1 d13_4 (by decide) ((if0 _ _).trans (feq (by decide)).2) <| oI 10 X1 d13_9 rfl rfl <| oA 11 X1 d13_10 rfl rfl ?_
  have f2 := F0.k0 K1
  refine oL 12 X1 f2 d13_11 rfl <| oc 13 (v := 1) X1 d13_12 rfl (by decide) <| o_isub 14 (v := 4) X1 d13_13 rfl (by decide) <| mS 17 0 X1 (rm_au9 G (by decide)) (u10 G) all0 d13_14 rfl rfl rfl lr (by decide) all0 ?_
  rintro _ _ _ _ X3 rfl K3 _ _
  refine sk [.int 4] rfl <| oT 18 (l' := #[rr pa1, ii 47, ii 4, ii 4]) X3 d13_17 rfl rfl <| oI 19 X3 d13_18 rfl rfl <| on 22 X3 d13_19 rfl ((if0 _ _).trans (flt (by decide)).1) <| oA 23 X3 d13_22 rfl rfl <| oI 24 X3 d13_23 rfl rfl ?_
  have f4 := f2.k0 K3
  refine oB 25 (v := (.int pi5)) X3 f4 ⟨by decide, by decide⟩ rfl d13_24 rfl <| oI 26 X3 d13_25 rfl rfl <| o_i2b 27 (v := 47) X3 d13_26 rfl (by decide) <| oY 32 X3 d13_27 (by decide) (feq nk_pi5_47).2 <| oJ 35 3 #[rr pa1, ii 47, ii 4, ii 3] X3 d13_32 rfl rfl (by decide) rfl <| og 18 X3 d13_35 (by decide) <| oI 19 X3 d13_18 rfl rfl <| on 22 X3 d13_19 rfl ((if0 _ _).trans (flt (by decide)).1) <| oA 23 X3 d13_22 rfl rfl <| oI 24 X3 d13_23 rfl rfl <| oB 25 (v := (.int pi4)) X3 f4 ⟨by decide, by decide⟩ rfl d13_24 rfl <| oI 26 X3 d13_25 rfl rfl ?_
  refine o_i2b 27 (v := 47) X3 d13_26 rfl (by decide) <| oN 30 X3 d13_27 rfl (teq pc_0).2 <| oI 31 X3 d13_30 rfl rfl ?_
  exact o_iret X3 d13_31 rfl (by decide) (by decide) (fun _ CC => rfl)
theorem rm_au224 (G : GL l Z a0 zc fmt) (F0 : ex1 Z h0 pa1) (F1 : fd0 Z h0 pa1 (.int 0)) (F2 : fd1 Z h0 pa1 (.ref pa2)) (F3 : av1 Z h0 pa2 pk1 5 [.int pi1, .int pi2, .int pi3, .int pi4, .int pi5]) (nk_pi5_47 : ¬ pi5 = (47 : Int32)) (pc_0 : pi4 = (47 : Int32)) : M11 l Z 2 0 0 28 #[.ref pa1, .int 47, .int 4] h0 n0 [] [] (Q21 Z  h0) := by
  refine mi B11 ef9 (hEW G) fun s X0 hsf0 n0le => ?_
  have := F0.l
  have := F3.l
  refine oA 1 X0 d11_0 rfl rfl <| mV 4 0 X0 F0 (rm_au7 G F1 (by decide)) (u8 G) all0 d11_1 rfl rfl rfl lr (by decide) all0 ?_
  rintro _ _ _ _ X1 rfl K1 _ _
  refine sk [.int 1] rfl <| on 7 X1 d11_4 rfl ((if0 _ _).trans (feq (by decide)).1) <| oA 8 X1 d11_7 rfl rfl ?_
  have f2 := F2.k0 K1
  refine oF 11 X1 (w33 G) Via.refl f2 d11_8 rfl ?_
  intro _ X4
  refine oI 12 X4 d11_11 rfl rfl <| oI 13 X4 d11_12 rfl rfl ?_
  have f5 := F3.k0 K1
  refine mS 16 0 X4 (rm_au223 G f5 nk_pi5_47 pc_0) (u11 G) all0 d11_13 rfl rfl rfl lr (by decide) all0 ?_
  rintro _ _ _ _ X6 rfl _ _ _
  refine sk [.int 3] rfl <| og 28 X6 d11_16 (by decide) ?_
  exact o_iret X6 d11_28 rfl (by decide) (by decide) (fun _ CC => rfl)
theorem rm_au225 (G : GL l Z a0 zc fmt) (F0 : ex1 Z h0 pa1) (F1 : fd0 Z h0 pa1 (.int 0)) (F2 : fd1 Z h0 pa1 (.ref pa2)) (F3 : av1 Z h0 pa2 pk1 5 [.int pi1, .int pi2, .int pi3, .int pi4, .int pi5]) (nk_pi5_47 : ¬ pi5 = (47 : Int32)) (pc_0 : pi4 = (47 : Int32)) : M8 l Z 3 0 0 42 #[.ref pa1, .int 47] h0 n0 [] [] (Q21 Z  h0) := by
  refine mi B8 ef6 (hEW G) fun s X0 hsf0 n0le => ?_
  have := F0.l
  have := F3.l
  refine oA 1 X0 d8_0 rfl rfl <| oI 2 X0 d8_1 rfl rfl <| oA 3 X0 d8_2 rfl rfl <| mV 6 2 X0 F0 (rm_au165 G F0 F1 F2 F3) (u7 G) all0 d8_3 rfl rfl rfl lr (by decide) all0 ?_
  rintro _ _ _ _ X1 rfl K1 _ _
  refine sk [.int 5, .int 47, .ref pa1] rfl <| oc 7 (v := 1) X1 d8_6 rfl (by decide) <| o_isub 8 (v := 4) X1 d8_7 rfl (by decide) ?_
  have f2 := F0.keep K1
  have f3 := F1.k0 K1
  have f4 := F2.k0 K1
  have f5 := F3.k0 K1
  refine mV 11 0 X1 f2 (rm_au224 G f2 f3 f4 f5 nk_pi5_47 pc_0) (u12 G) all0 d8_8 rfl rfl rfl lr (by decide) all0 ?_
  rintro _ _ _ _ X6 rfl _ _ _
  refine sk [.int 3] rfl ?_
  exact o_iret X6 d8_11 rfl (by decide) (by decide) (fun _ CC => rfl)
theorem rm_au226 (G : GL l Z a0 zc fmt) (F0 : av1 Z h0 pa1 pk1 5 [.int pi1, .int pi2, .int pi3, .int pi4, .int pi5]) : M22 l Z 1 1 1 40 #[.ref pa1, .int 4, .int 5] h0 n0 [] [] (Q15 Z pi5 h0) := by
  refine mi B22 ef13 (hEW G) fun s X0 hsf0 n0le => ?_
  have := F0.l
  refine oI 1 X0 d22_0 rfl rfl <| oI 2 X0 d22_1 rfl rfl <| mS 5 0 X0 (rm_au32 G (by decide)) (u20 G) all0 d22_2 rfl rfl rfl lr (by decide) all0 ?_
  rintro _ _ _ _ X1 rfl K1 _ _
  refine sk [] rfl <| oI 6 X1 d22_5 rfl rfl <| oI 7 X1 d22_6 rfl rfl <| o_isub 8 (v := 1) X1 d22_7 rfl (by decide) <| oT 9 (l' := #[rr pa1, ii 4, ii 5, ii 1, uu]) X1 d22_8 rfl rfl <| oI 10 X1 d22_9 rfl rfl <| nP (aty := .byte) 12 1 X1 (w24 G) d22_10 rfl (by decide) had_byte ?_
  intro _ h2 b2 k2 X2 _ _ E2 V2 A2 _ S2
  have V3 : av1 Z h2 b2 k2 1 [i0] := V2.pad (pad_rep [] (.int (0 : Int32)) 1)
  refine oU 14 (l' := #[rr pa1, ii 4, ii 5, ii 1, rr b2]) X2 d22_12 rfl rfl rfl <| oA 15 X2 d22_14 rfl rfl <| oI 16 X2 d22_15 rfl rfl <| oa 18 X2 d22_16 rfl rfl <| oc 19 (v := 0) X2 d22_18 rfl (by decide) <| oA 20 X2 d22_19 rfl rfl ?_
  have f4 := (F0.k0 K1).ext E2
  refine oL 21 X2 f4 d22_20 rfl <| oI 22 X2 d22_21 rfl rfl <| o_isub 23 (v := 1) X2 d22_22 rfl (by decide) <| oI 24 X2 d22_23 rfl rfl <| mS 27 4 X2 (rm_au9 G (by decide)) (u21 G) all0 d22_24 rfl rfl rfl lr (by decide) all0 ?_
  rintro _ _ _ _ X5 rfl K5 _ C5
  refine sk [.int 1, i0, .ref b2, .int 4, .ref pa1] rfl ?_
  have f6 := f4.k0 K5
  have f7 := V3.k0 K5
  have f8 := C5.safe (own_lt (by omega)) S2
  refine o_cp 30 (us := [.int pi5]) (vr := [.int pi5]) (W := 0) X5 (w111 G) (w114 G) (w112 G) (w113 G) f6 f7 (Or.inl ⟨rfl, rfl⟩) (by decide) (by decide) (by decide) (by decide) (by decide) rfl (Nat.le_of_ble_eq_true rfl) rfl d22_27 rfl rfl (by decide) (Nat.le_of_eq rfl) (by decide) (by omega) (Or.inr (by omega)) f8 ?_
  intro _ _ X9 K9 C9 V9
  have := K9.1
  refine oa 32 X9 d22_30 rfl rfl ?_
  have f10 := (A2.keep K5).keep K9
  have f11 := C9.safe (own_lt (by omega)) f8
  exact oR X9 d22_32 rfl rfl rfl (by decide) (by decide) (fun _ CC => ⟨b2, k2, rfl, V9, f10, (CC.safe (own_lt (by omega)) f11), by omega⟩)
theorem rm_au227 (G : GL l Z a0 zc fmt) (F0 : av1 Z h0 pa1 pk1 5 [.int pi1, .int pi2, .int pi3, .int pi4, .int pi5]) : M21 l Z 2 1 1 56 #[.ref pa1, .int 4, .int 5] h0 n0 [] [] (Q15 Z pi5 h0) := by
  refine mi B21 ef9 (hEW G) fun s X0 hsf0 n0le => ?_
  have := F0.l
  refine oI 1 X0 d21_0 rfl rfl <| oy 10 X0 d21_1 (by decide) ((if0 _ _).trans (feq (by decide)).2) <| oA 11 X0 d21_10 rfl rfl <| oI 12 X0 d21_11 rfl rfl <| oI 13 X0 d21_12 rfl rfl <| mS 16 0 X0 (rm_au226 G F0) (u22 G) all0 d21_13 rfl rfl rfl lr (by decide) all0 ?_
  rintro _ _ _ _ X1 ⟨xa1_2, xk1_3, rfl, q4, q5, q6, _⟩ _ _ _
  refine sk [.ref xa1_2] rfl ?_
  exact oR X1 d21_16 rfl rfl rfl (by decide) (by decide) (fun _ CC => ⟨xa1_2, xk1_3, rfl, q4, q5, (CC.safe (own_lt (by omega)) q6), by omega⟩)
theorem rm_au228 (G : GL l Z a0 zc fmt) (F0 : av1 Z h0 pa1 pk1 5 [.int pi1, .int pi2, .int pi3, .int pi4, .int pi5]) : M20 l Z 3 2 5 72 #[.ref pa1, .int 4, .int 1] h0 n0 [] [] (Q17 Z pi5 h0) := by
  refine mi B20 ef9 (hEW G) fun s X0 hsf0 n0le => ?_
  have l1 := F0.l
  refine oI 1 X0 d20_0 rfl rfl <| oy 7 X0 d20_1 (by decide) ((if0 _ _).trans (feq (by decide)).2) <| o_new 10 X0 (w99 G) (w7 G) (w8 G) d20_7 rfl (by decide) (by decide) ?_
  intro _ h1 b1 X1 _ l1 E1 A1 D1 _ _ S1
  have f2 : fd0 Z h1 b1 (.int 0) := D1 (Or.inr (w32 G)) fd_0
  have f3 : fd1 Z h1 b1 .null := D1 (Or.inr (w34 G)) fd_1
  refine oD 11 X1 d20_10 rfl rfl <| oA 12 X1 d20_11 rfl rfl <| oI 13 X1 d20_12 rfl rfl <| oI 14 X1 d20_13 rfl rfl <| oI 15 X1 d20_14 rfl rfl <| o_iadd 16 (v := 5) X1 d20_15 rfl (by decide) ?_
  have f4 := F0.ext E1
  refine mS 19 2 X1 (rm_au227 G f4) (u23 G) all0 d20_16 rfl rfl rfl lr (by decide) all0 ?_
  rintro _ _ _ _ X5 ⟨xa1_6, xk1_7, rfl, q8, q9, q10, _⟩ K5 _ C5
  refine sk [.ref xa1_6, .ref b1, .ref b1] rfl <| oc 20 (v := 0) X5 d20_19 rfl (by decide) ?_
  have f12 := A1.keep K5
  have f13 := f2.k0 K5
  have f14 := f3.k0 K5
  have f15 := C5.safe (own_lt (by omega)) S1
  refine mP 23 1 X5 (rm_au35 G f12 f13 f14 (by omega)) (u24 G) (sS (by omega) f15 all0) d20_20 rfl rfl rfl lr (by decide) (aR (by omega) all0) ?_
  rintro _ _ _ _ X16 ⟨rfl, q17, q18, q19⟩ K16 _ C16
  refine sk [.ref b1] rfl ?_
  have f20 := C16.safe (own_lt (by omega)) f15
  have f21 := q8.k1 K16 (by omega)
  have f22 := q9.keep K16
  have f23 := C16.safe (own_lt (by omega)) q10
  exact oR X16 d20_23 rfl rfl rfl (by decide) (by decide) (fun _ CC => ⟨b1, xa1_6, xk1_7, rfl, q17, q18, q19, (CC.safe (own_lt (by omega)) f20), f21, f22, (CC.safe (own_lt (by omega)) f23), by omega⟩)
theorem rm_au229 (G : GL l Z a0 zc fmt) (F0 : ex1 Z h0 pa1) (F1 : fd0 Z h0 pa1 (.int 0)) (F2 : fd1 Z h0 pa1 (.ref pa2)) (F3 : av1 Z h0 pa2 pk1 5 [.int pi1, .int pi2, .int pi3, .int pi4, .int pi5]) : M17 l Z 4 2 5 86 #[.ref pa1, .int 4, .int 5] h0 n0 [] [] (Q17 Z pi5 h0) := by
  refine mi B17 ef13 (hEW G) fun s X0 hsf0 n0le => ?_
  have := F0.l
  have := F3.l
  refine oA 1 X0 d17_0 rfl rfl <| mV 4 0 X0 F0 (rm_au165 G F0 F1 F2 F3) (u7 G) all0 d17_1 rfl rfl rfl lr (by decide) all0 ?_
  rintro _ _ _ _ X1 rfl K1 _ _
  refine sk [.int 5] rfl <| oT 5 (l' := #[rr pa1, ii 4, ii 5, ii 5, uu]) X1 d17_4 rfl rfl <| oI 6 X1 d17_5 rfl rfl <| oI 7 X1 d17_6 rfl rfl <| oI 8 X1 d17_7 rfl rfl <| mS 11 0 X1 (rm_au14 G (by decide) (by decide) (by decide)) (u15 G) all0 d17_8 rfl rfl rfl lr (by decide) all0 ?_
  rintro _ _ _ _ X2 rfl K2 _ _
  refine sk [] rfl <| oI 12 X2 d17_11 rfl rfl <| oy 22 X2 d17_12 (by decide) ((if0 _ _).trans (feq (by decide)).2) <| oI 23 X2 d17_22 rfl rfl <| oI 24 X2 d17_23 rfl rfl <| o_isub 25 (v := 1) X2 d17_24 rfl (by decide) <| oS 27 (l' := #[rr pa1, ii 4, ii 5, ii 5, ii 1]) X2 d17_25 rfl rfl <| oA 28 X2 d17_27 rfl rfl ?_
  have f3 := (F1.k0 K1).k0 K2
  have f4 := (F0.keep K1).keep K2
  refine mV 31 0 X2 f4 (rm_au7 G f3 (by decide)) (u8 G) all0 d17_28 rfl rfl rfl lr (by decide) all0 ?_
  rintro _ _ _ _ X5 rfl K5 _ _
  refine sk [.int 1] rfl <| on 34 X5 d17_31 rfl ((if0 _ _).trans (feq (by decide)).1) <| oA 35 X5 d17_34 rfl rfl ?_
  have f6 := ((F2.k0 K1).k0 K2).k0 K5
  refine oF 38 X5 (w33 G) Via.refl f6 d17_35 rfl ?_
  intro _ X8
  refine oI 39 X8 d17_38 rfl rfl <| oi 41 X8 d17_39 rfl rfl ?_
  have f9 := ((F3.k0 K1).k0 K2).k0 K5
  refine mS 44 0 X8 (rm_au228 G f9) (u16 G) all0 d17_41 rfl rfl rfl lr (by decide) all0 ?_
  rintro _ _ _ _ X10 ⟨xa1_11, xa2_12, xk1_13, rfl, q14, q15, q16, q17, q18, q19, q20, _⟩ _ _ _
  refine sk [.ref xa1_11] rfl <| og 57 X10 d17_44 (by decide) ?_
  exact oR X10 d17_57 rfl rfl rfl (by decide) (by decide) (fun _ CC => ⟨xa1_11, xa2_12, xk1_13, rfl, q14, q15, q16, (CC.safe (own_lt (by omega)) q17), q18, q19, (CC.safe (own_lt (by omega)) q20), by omega⟩)
theorem rm_au230 (G : GL l Z a0 zc fmt) (F0 : ex1 Z h0 pa1) (F1 : fd0 Z h0 pa1 (.int 0)) (F2 : fd1 Z h0 pa1 (.ref pa2)) (F3 : av1 Z h0 pa2 pk1 5 [.int pi1, .int pi2, .int pi3, .int pi4, .int pi5]) : M16 l Z 5 2 5 102 #[.ref pa1, .int 4] h0 n0 [] [] (Q17 Z pi5 h0) := by
  refine mi B16 ef6 (hEW G) fun s X0 hsf0 n0le => ?_
  have := F0.l
  have := F3.l
  refine oA 1 X0 d16_0 rfl rfl <| oI 2 X0 d16_1 rfl rfl <| oA 3 X0 d16_2 rfl rfl <| mV 6 2 X0 F0 (rm_au165 G F0 F1 F2 F3) (u7 G) all0 d16_3 rfl rfl rfl lr (by decide) all0 ?_
  rintro _ _ _ _ X1 rfl K1 _ _
  refine sk [.int 5, .int 4, .ref pa1] rfl ?_
  have f2 := F0.keep K1
  have f3 := F1.k0 K1
  have f4 := F2.k0 K1
  have f5 := F3.k0 K1
  refine mV 9 0 X1 f2 (rm_au229 G f2 f3 f4 f5) (u17 G) all0 d16_6 rfl rfl rfl lr (by decide) all0 ?_
  rintro _ _ _ _ X6 ⟨xa1_7, xa2_8, xk1_9, rfl, q10, q11, q12, q13, q14, q15, q16, _⟩ _ _ _
  refine sk [.ref xa1_7] rfl ?_
  exact oR X6 d16_9 rfl rfl rfl (by decide) (by decide) (fun _ CC => ⟨xa1_7, xa2_8, xk1_9, rfl, q10, q11, q12, (CC.safe (own_lt (by omega)) q13), q14, q15, (CC.safe (own_lt (by omega)) q16), by omega⟩)
theorem rm_au231 (G : GL l Z a0 zc fmt) (F0 : ex1 Z h0 pa1) (F1 : fd0 Z h0 pa1 (.int 0)) (F2 : fd1 Z h0 pa1 (.ref pa2)) (F3 : av1 Z h0 pa2 pk1 5 [.int pi100, .int pi1, .int pi2, .int pi101, .int pi3]) (nk_pi3_46 : ¬ pi3 = (46 : Int32)) (nk_pi3_47 : ¬ pi3 = (47 : Int32)) (pc_0 : pi101 = (47 : Int32)) : M7 l Z 6 2 5 115 #[.ref pa1] h0 n0 [] [] (Q10 Z  h0) := by
  refine mi B7 ef7 (hEW G) fun s X0 hsf0 n0le => ?_
  have := F0.l
  have := F3.l
  refine oA 1 X0 d7_0 rfl rfl <| oA 2 X0 d7_1 rfl rfl <| ob 4 (v := 47) X0 d7_2 rfl (by decide) <| mV 7 1 X0 F0 (rm_au225 G F0 F1 F2 F3 nk_pi3_47 pc_0) (u13 G) all0 d7_4 rfl rfl rfl lr (by decide) all0 ?_
  rintro _ _ _ _ X1 rfl K1 _ _
  refine sk [.int 3, .ref pa1] rfl <| oc 8 (v := 1) X1 d7_7 rfl (by decide) <| o_iadd 9 (v := 4) X1 d7_8 rfl (by decide) ?_
  have f2 := F0.keep K1
  have f3 := F1.k0 K1
  have f4 := F2.k0 K1
  have f5 := F3.k0 K1
  refine mV 12 0 X1 f2 (rm_au230 G f2 f3 f4 f5) (u18 G) all0 d7_9 rfl rfl rfl lr (by decide) all0 ?_
  rintro _ _ _ _ X6 ⟨xa1_7, _, _, rfl, q10, q11, q12, _, q14, _, _, _⟩ _ _ _
  refine sk [.ref xa1_7] rfl <| oV 13 (l' := #[rr pa1, rr xa1_7, uu]) X6 d7_12 rfl rfl rfl <| oA 14 X6 d7_13 rfl rfl <| ob 16 (v := 46) X6 d7_14 rfl (by decide) <| mV 19 0 X6 q10 (rm_au41 G q10 q11 q12 q14 nk_pi3_46) (u13 G) all0 d7_16 rfl rfl rfl lr (by decide) all0 ?_
  rintro _ _ _ _ X18 rfl _ _ _
  refine sk [.int (-1)] rfl <| oT 20 (l' := #[rr pa1, rr xa1_7, ii (-1)]) X18 d7_19 rfl rfl <| oI 21 X18 d7_20 rfl rfl <| on 24 X18 d7_21 rfl ((if0 _ _).trans (tlt (by decide)).2.1) <| o_aconstNull 25 X18 d7_24 rfl <| og 35 X18 d7_25 (by decide) ?_
  exact oR X18 d7_35 rfl rfl rfl (by decide) (by decide) (fun _ CC => rfl)
theorem rm_au232 (G : GL l Z a0 zc fmt) (F0 : ex1 Z h0 pa1) (F1 : fd0 Z h0 pa1 (.int 0)) (F2 : fd1 Z h0 pa1 (.ref pa2)) (F3 : av1 Z h0 pa2 pk1 5 [.int pi100, .int pi1, .int pi2, .int pi101, .int pi102]) (pc_0 : ¬ pi102 = (47 : Int32)) (pc_1 : pi101 = (47 : Int32)) (pc_2 : pi102 = (46 : Int32)) : M7 l Z 6 4 9 115 #[.ref pa1] h0 n0 [] [] (Q8 Z  h0) := by
  refine mi B7 ef7 (hEW G) fun s X0 hsf0 n0le => ?_
  have := F0.l
  have := F3.l
  refine oA 1 X0 d7_0 rfl rfl <| oA 2 X0 d7_1 rfl rfl <| ob 4 (v := 47) X0 d7_2 rfl (by decide) <| mV 7 1 X0 F0 (rm_au225 G F0 F1 F2 F3 pc_0 pc_1) (u13 G) all0 d7_4 rfl rfl rfl lr (by decide) all0 ?_
  rintro _ _ _ _ X1 rfl K1 _ _
  refine sk [.int 3, .ref pa1] rfl <| oc 8 (v := 1) X1 d7_7 rfl (by decide) <| o_iadd 9 (v := 4) X1 d7_8 rfl (by decide) ?_
  have f2 := F0.keep K1
  have f3 := F1.k0 K1
  have f4 := F2.k0 K1
  have f5 := F3.k0 K1
  refine mV 12 0 X1 f2 (rm_au230 G f2 f3 f4 f5) (u18 G) all0 d7_9 rfl rfl rfl lr (by decide) all0 ?_
  rintro _ _ _ _ X6 ⟨xa1_7, _, _, rfl, q10, q11, q12, _, q14, q15, _, _⟩ _ _ _
  refine sk [.ref xa1_7] rfl <| oV 13 (l' := #[rr pa1, rr xa1_7, uu]) X6 d7_12 rfl rfl rfl <| oA 14 X6 d7_13 rfl rfl <| ob 16 (v := 46) X6 d7_14 rfl (by decide) <| mV 19 0 X6 q10 (rm_au45 G q10 q11 q12 q14 pc_2) (u13 G) all0 d7_16 rfl rfl rfl lr (by decide) all0 ?_
  rintro _ _ _ _ X18 rfl K18 _ _
  refine sk [i0] rfl <| oT 20 (l' := #[rr pa1, rr xa1_7, ii 0]) X18 d7_19 rfl rfl <| oI 21 X18 d7_20 rfl rfl <| oy 28 X18 d7_21 (by decide) ((if0 _ _).trans (flt (by decide)).2.1) <| oA 29 X18 d7_28 rfl rfl <| oI 30 X18 d7_29 rfl rfl <| oc 31 (v := 1) X18 d7_30 rfl (by decide) <| o_iadd 32 (v := 1) X18 d7_31 rfl (by decide) ?_
  have f19 := q10.keep K18
  have f20 := q11.k0 K18
  have f21 := q12.k0 K18
  have f22 := q14.k0 K18
  have f23 := q15.keep K18
  refine mV 35 0 X18 f19 (rm_au17 G f19 f20 f21 f22 f23) (u18 G) all0 d7_32 rfl rfl rfl lr (by decide) all0 ?_
  rintro _ _ _ _ X24 ⟨xa1_25, xa2_26, xk1_27, rfl, q28, q29, q30, q31, _⟩ _ _ _
  refine sk [.ref xa1_25] rfl ?_
  exact oR X24 d7_35 rfl rfl rfl (by decide) (by decide) (fun _ CC => ⟨xa1_25, xa2_26, xk1_27, rfl, q28, q29, q30, q31, by omega⟩)
theorem rm_au233 (G : GL l Z a0 zc fmt) (F0 : av1 Z h0 pa1 pk1 5 [.int pi1, .int pi2, .int pi3, .int pi4, .int pi5]) (pc_0 : pi5 = (47 : Int32)) : M13 l Z 1 0 0 13 #[.ref pa1, .int 47, .int 4] h0 n0 [] [] (Q28 Z  h0) := by
  refine mi B13 ef10 (hEW G) fun s X0 hsf0 n0le => ?_
  have := F0.l
  refine oI 1 X0 d13_0 rfl rfl <| mS 4 0 X0 (rm_au8 G (by decide) (by decide)) (u9 G) all0 d13_1 rfl rfl rfl lr (by decide) all0 ?_
  rintro _ _ _ _ X1 rfl K1 _ _
  refine sk [.int 1] rfl <| oy 9 X1 d13_4 (by decide) ((if0 _ _).trans (feq (by decide)).2) <| oI 10 X1 d13_9 rfl rfl <| oA 11 X1 d13_10 rfl rfl ?_
  have f2 := F0.k0 K1
  refine oL 12 X1 f2 d13_11 rfl <| oc 13 (v := 1) X1 d13_12 rfl (by decide) <| o_isub 14 (v := 4) X1 d13_13 rfl (by decide) <| mS 17 0 X1 (rm_au9 G (by decide)) (u10 G) all0 d13_14 rfl rfl rfl lr (by decide) all0 ?_
  rintro _ _ _ _ X3 rfl K3 _ _
  refine sk [.int 4] rfl <| oT 18 (l' := #[rr pa1, ii 47, ii 4, ii 4]) X3 d13_17 rfl rfl <| oI 19 X3 d13_18 rfl rfl <| on 22 X3 d13_19 rfl ((if0 _ _).trans (flt (by decide)).1) <| oA 23 X3 d13_22 rfl rfl <| oI 24 X3 d13_23 rfl rfl ?_
  have f4 := f2.k0 K3
  refine oB 25 (v := (.int pi5)) X3 f4 ⟨by decide, by decide⟩ rfl d13_24 rfl <| oI 26 X3 d13_25 rfl rfl <| o_i2b 27 (v := 47) X3 d13_26 rfl (by decide) <| oN 30 X3 d13_27 rfl (teq pc_0).2 <| oI 31 X3 d13_30 rfl rfl ?_
  exact o_iret X3 d13_31 rfl (by decide) (by decide) (fun _ CC => rfl)
theorem rm_au234 (G : GL l Z a0 zc fmt) (F0 : ex1 Z h0 pa1) (F1 : fd0 Z h0 pa1 (.int 0)) (F2 : fd1 Z h0 pa1 (.ref pa2)) (F3 : av1 Z h0 pa2 pk1 5 [.int pi1, .int pi2, .int pi3, .int pi4, .int pi5]) (pc_0 : pi5 = (47 : Int32)) : M11 l Z 2 0 0 28 #[.ref pa1, .int 47, .int 4] h0 n0 [] [] (Q28 Z  h0) := by
  refine mi B11 ef9 (hEW G) fun s X0 hsf0 n0le => ?_
  have := F0.l
  have := F3.l
  refine oA 1 X0 d11_0 rfl rfl <| mV 4 0 X0 F0 (rm_au7 G F1 (by decide)) (u8 G) all0 d11_1 rfl rfl rfl lr (by decide) all0 ?_
  rintro _ _ _ _ X1 rfl K1 _ _
  refine sk [.int 1] rfl <| on 7 X1 d11_4 rfl ((if0 _ _).trans (feq (by decide)).1) <| oA 8 X1 d11_7 rfl rfl ?_
  have f2 := F2.k0 K1
  refine oF 11 X1 (w33 G) Via.refl f2 d11_8 rfl ?_
  intro _ X4
  refine oI 12 X4 d11_11 rfl rfl <| oI 13 X4 d11_12 rfl rfl ?_
  have f5 := F3.k0 K1
  refine mS 16 0 X4 (rm_au233 G f5 pc_0) (u11 G) all0 d11_13 rfl rfl rfl lr (by decide) all0 ?_
  rintro _ _ _ _ X6 rfl _ _ _
  refine sk [.int 4] rfl <| og 28 X6 d11_16 (by decide) ?_
  exact o_iret X6 d11_28 rfl (by decide) (by decide) (fun _ CC => rfl)
theorem rm_au235 (G : GL l Z a0 zc fmt) (F0 : ex1 Z h0 pa1) (F1 : fd0 Z h0 pa1 (.int 0)) (F2 : fd1 Z h0 pa1 (.ref pa2)) (F3 : av1 Z h0 pa2 pk1 5 [.int pi1, .int pi2, .int pi3, .int pi4, .int pi5]) (pc_0 : pi5 = (47 : Int32)) : M8 l Z 3 0 0 42 #[.ref pa1, .int 47] h0 n0 [] [] (Q28 Z  h0) := by
  refine mi B8 ef6 (hEW G) fun s X0 hsf0 n0le => ?_
  have := F0.l
  have := F3.l
  refine oA 1 X0 d8_0 rfl rfl <| oI 2 X0 d8_1 rfl rfl <| oA 3 X0 d8_2 rfl rfl <| mV 6 2 X0 F0 (rm_au165 G F0 F1 F2 F3) (u7 G) all0 d8_3 rfl rfl rfl lr (by decide) all0 ?_
  rintro _ _ _ _ X1 rfl K1 _ _
  refine sk [.int 5, .int 47, .ref pa1] rfl <| oc 7 (v := 1) X1 d8_6 rfl (by decide) <| o_isub 8 (v := 4) X1 d8_7 rfl (by decide) ?_
  have f2 := F0.keep K1
  have f3 := F1.k0 K1
  have f4 := F2.k0 K1
  have f5 := F3.k0 K1
  refine mV 11 0 X1 f2 (rm_au234 G f2 f3 f4 f5 pc_0) (u12 G) all0 d8_8 rfl rfl rfl lr (by decide) all0 ?_
  rintro _ _ _ _ X6 rfl _ _ _
  refine sk [.int 4] rfl ?_
  exact o_iret X6 d8_11 rfl (by decide) (by decide) (fun _ CC => rfl)
theorem rm_au236 (G : GL l Z a0 zc fmt) (F0 : ex1 Z h0 pa1) (F1 : fd0 Z h0 pa1 (.int 0)) (F2 : fd1 Z h0 pa1 (.ref pa2)) (F3 : av1 Z h0 pa2 pk1 5 ps_pa2) (F4 : ex0 Z h0 pa2) : M17 l Z 2 2 4 29 #[.ref pa1, .int 5, .int 5] h0 n0 [] [] (Q8 Z  h0) := by
  refine mi B17 ef13 (hEW G) fun s X0 hsf0 n0le => ?_
  have := F0.l
  have := F3.l
  refine oA 1 X0 d17_0 rfl rfl <| mV 4 0 X0 F0 (rm_au165 G F0 F1 F2 F3) (u7 G) all0 d17_1 rfl rfl rfl lr (by decide) all0 ?_
  rintro _ _ _ _ X1 rfl K1 _ _
  refine sk [.int 5] rfl <| oT 5 (l' := #[rr pa1, ii 5, ii 5, ii 5, uu]) X1 d17_4 rfl rfl <| oI 6 X1 d17_5 rfl rfl <| oI 7 X1 d17_6 rfl rfl <| oI 8 X1 d17_7 rfl rfl <| mS 11 0 X1 (rm_au14 G (by decide) (by decide) (by decide)) (u15 G) all0 d17_8 rfl rfl rfl lr (by decide) all0 ?_
  rintro _ _ _ _ X2 rfl K2 _ _
  refine sk [] rfl <| oI 12 X2 d17_11 rfl rfl <| oy 22 X2 d17_12 (by decide) ((if0 _ _).trans (feq (by decide)).2) <| oI 23 X2 d17_22 rfl rfl <| oI 24 X2 d17_23 rfl rfl <| o_isub 25 (v := 0) X2 d17_24 rfl (by decide) <| oS 27 (l' := #[rr pa1, ii 5, ii 5, ii 5, ii 0]) X2 d17_25 rfl rfl <| oA 28 X2 d17_27 rfl rfl ?_
  have f3 := (F1.k0 K1).k0 K2
  have f4 := (F0.keep K1).keep K2
  refine mV 31 0 X2 f4 (rm_au7 G f3 (by decide)) (u8 G) all0 d17_28 rfl rfl rfl lr (by decide) all0 ?_
  rintro _ _ _ _ X5 rfl K5 _ _
  refine sk [.int 1] rfl <| on 34 X5 d17_31 rfl ((if0 _ _).trans (feq (by decide)).1) <| oA 35 X5 d17_34 rfl rfl ?_
  have f6 := ((F2.k0 K1).k0 K2).k0 K5
  refine oF 38 X5 (w33 G) Via.refl f6 d17_35 rfl ?_
  intro _ X8
  refine oI 39 X8 d17_38 rfl rfl <| oi 41 X8 d17_39 rfl rfl ?_
  have f9 := ((F4.keep K1).keep K2).keep K5
  refine mS 44 0 X8 (rm_au15 G f9 (by decide)) (u16 G) all0 d17_41 rfl rfl rfl lr (by decide) all0 ?_
  rintro _ _ _ _ X10 ⟨xa1_11, xa2_12, xk1_13, rfl, q14, q15, q16, q17, _⟩ _ _ _
  refine sk [.ref xa1_11] rfl <| og 57 X10 d17_44 (by decide) ?_
  exact oR X10 d17_57 rfl rfl rfl (by decide) (by decide) (fun _ CC => ⟨xa1_11, xa2_12, xk1_13, rfl, q14, q15, q16, q17, by omega⟩)
theorem rm_au237 (G : GL l Z a0 zc fmt) (F0 : ex1 Z h0 pa1) (F1 : fd0 Z h0 pa1 (.int 0)) (F2 : fd1 Z h0 pa1 (.ref pa2)) (F3 : av1 Z h0 pa2 pk1 5 ps_pa2) (F4 : ex0 Z h0 pa2) : M16 l Z 3 2 4 45 #[.ref pa1, .int 5] h0 n0 [] [] (Q8 Z  h0) := by
  refine mi B16 ef6 (hEW G) fun s X0 hsf0 n0le => ?_
  have := F0.l
  have := F3.l
  refine oA 1 X0 d16_0 rfl rfl <| oI 2 X0 d16_1 rfl rfl <| oA 3 X0 d16_2 rfl rfl <| mV 6 2 X0 F0 (rm_au165 G F0 F1 F2 F3) (u7 G) all0 d16_3 rfl rfl rfl lr (by decide) all0 ?_
  rintro _ _ _ _ X1 rfl K1 _ _
  refine sk [.int 5, .int 5, .ref pa1] rfl ?_
  have f2 := F0.keep K1
  have f3 := F1.k0 K1
  have f4 := F2.k0 K1
  have f5 := F3.k0 K1
  have f6 := F4.keep K1
  refine mV 9 0 X1 f2 (rm_au236 G f2 f3 f4 f5 f6) (u17 G) all0 d16_6 rfl rfl rfl lr (by decide) all0 ?_
  rintro _ _ _ _ X7 ⟨xa1_8, xa2_9, xk1_10, rfl, q11, q12, q13, q14, _⟩ _ _ _
  refine sk [.ref xa1_8] rfl ?_
  exact oR X7 d16_9 rfl rfl rfl (by decide) (by decide) (fun _ CC => ⟨xa1_8, xa2_9, xk1_10, rfl, q11, q12, q13, q14, by omega⟩)
theorem rm_au238 (G : GL l Z a0 zc fmt) (F0 : ex1 Z h0 pa1) (F1 : fd0 Z h0 pa1 (.int 0)) (F2 : fd1 Z h0 pa1 (.ref pa2)) (F3 : av1 Z h0 pa2 pk1 5 [.int pi100, .int pi1, .int pi2, .int pi3, .int pi101]) (F4 : ex0 Z h0 pa2) (pc_0 : pi101 = (47 : Int32)) : M7 l Z 4 2 4 58 #[.ref pa1] h0 n0 [] [] (Q10 Z  h0) := by
  refine mi B7 ef7 (hEW G) fun s X0 hsf0 n0le => ?_
  have := F0.l
  have := F3.l
  refine oA 1 X0 d7_0 rfl rfl <| oA 2 X0 d7_1 rfl rfl <| ob 4 (v := 47) X0 d7_2 rfl (by decide) <| mV 7 1 X0 F0 (rm_au235 G F0 F1 F2 F3 pc_0) (u13 G) all0 d7_4 rfl rfl rfl lr (by decide) all0 ?_
  rintro _ _ _ _ X1 rfl K1 _ _
  refine sk [.int 4, .ref pa1] rfl <| oc 8 (v := 1) X1 d7_7 rfl (by decide) <| o_iadd 9 (v := 5) X1 d7_8 rfl (by decide) ?_
  have f2 := F0.keep K1
  have f3 := F1.k0 K1
  have f4 := F2.k0 K1
  have f5 := F3.k0 K1
  have f6 := F4.keep K1
  refine mV 12 0 X1 f2 (rm_au237 G f2 f3 f4 f5 f6) (u18 G) all0 d7_9 rfl rfl rfl lr (by decide) all0 ?_
  rintro _ _ _ _ X7 ⟨xa1_8, _, _, rfl, q11, q12, q13, q14, _⟩ _ _ _
  refine sk [.ref xa1_8] rfl <| oV 13 (l' := #[rr pa1, rr xa1_8, uu]) X7 d7_12 rfl rfl rfl <| oA 14 X7 d7_13 rfl rfl <| ob 16 (v := 46) X7 d7_14 rfl (by decide) <| mV 19 0 X7 q11 (rm_au21 G q11 q12 q13 q14) (u13 G) all0 d7_16 rfl rfl rfl lr (by decide) all0 ?_
  rintro _ _ _ _ X16 rfl _ _ _
  refine sk [.int (-1)] rfl <| oT 20 (l' := #[rr pa1, rr xa1_8, ii (-1)]) X16 d7_19 rfl rfl <| oI 21 X16 d7_20 rfl rfl <| on 24 X16 d7_21 rfl ((if0 _ _).trans (tlt (by decide)).2.1) <| o_aconstNull 25 X16 d7_24 rfl <| og 35 X16 d7_25 (by decide) ?_
  exact oR X16 d7_35 rfl rfl rfl (by decide) (by decide) (fun _ CC => rfl)
theorem rm_law (G : GL l Z a0 zc fmt) (wl : List Jvm.Cond) (p1 p2 p3 p4 p5 : Int32) {h0 : Heap} {n0 : Nat}  :
    Old Z n0 h0 → Met l x code maxLocals ret wl room_1 Z #[.int p1, .int p2, .int p3, .int p4, .int p5] h0 n0 [] EL0 false [] (Q5 Z  h0) := by
  refine mi B1 ef1 (hEW G) fun s X0 hsf0 n0le => ?_
  refine oi 2 X0 at_0 rfl rfl <| o_ldcI 4 (v := (2147483647 : Int32)) X0 (w0 G) at_2 rfl <| o_iand 5 (v := (p5 &&& (2147483647 : Int32))) X0 at_4 rfl rfl <| oc 6 (v := 5) X0 at_5 rfl (by decide) ?_
  rcases own_mod5 p5 with hk1 | hk1 | hk1 | hk1 | hk1
  · refine o_irem 7 (v := 0) X0 at_6 rfl (by decide) hk1 <| oS 9 (l' := #[ii p1, ii p2, ii p3, ii p4, ii p5, ii 0, uu, uu, uu, uu, uu, uu, uu]) X0 at_7 rfl rfl <| oc 10 (v := 5) X0 at_9 rfl (by decide) <| nP (aty := .char) 12 5 X0 (w1 G) at_10 rfl (by decide) had_char ?_
    intro _ h2 b2 k2 X2 _ _ _ V2 A2 _ _
    have V3 : av0 Z h2 b2 k2 5 [i0, i0, i0, i0, i0] := V2.pad (pad_rep [] (.int (0 : Int32)) 5)
    refine oU 14 (l' := #[ii p1, ii p2, ii p3, ii p4, ii p5, ii 0, rr b2, uu, uu, uu, uu, uu, uu]) X2 at_12 rfl rfl rfl <| oa 16 X2 at_14 rfl rfl <| oc 17 (v := 0) X2 at_16 rfl (by decide) <| ob 19 (v := 47) X2 at_17 rfl (by decide) <| sC 20 0 47 X2 V3 (by decide) (lb rfl) (by decide) at_19 rfl (by omega) (Or.inr (by omega)) (sx X2 A2 nc0) ?_
    rintro _ _ X4 ⟨_, _, W4⟩ _ V4
    have := W4.size
    have V5 := V4.as [.int 47, i0, i0, i0, i0] rfl
    refine oa 22 X4 at_20 rfl rfl <| oc 23 (v := 1) X4 at_22 rfl (by decide) <| oI 24 X4 at_23 rfl rfl <| mS 27 2 X4 (rm_draw G ) (u0 G) all0 at_24 rfl rfl rfl lr (by decide) all0 ?_
    rintro _ _ _ _ X6 ⟨xi1_7, rfl, q8⟩ K6 _ _
    refine sk [.int xi1_7, .int 1, .ref b2] rfl ?_
    have f9 := V5.k0 K6
    have f11 := (A2.wr W4).keep K6
    refine sC 28 1 xi1_7 X6 f9 (by decide) (lb rfl) (own_narC q8) at_27 rfl (by omega) (Or.inr (by omega)) (sx X6 f11 nc0) ?_
    rintro _ _ X10 ⟨_, _, W10⟩ _ V10
    have := W10.size
    have V12 := V10.as [.int 47, .int xi1_7, i0, i0, i0] rfl
    refine oa 30 X10 at_28 rfl rfl <| oc 31 (v := 2) X10 at_30 rfl (by decide) <| oI 32 X10 at_31 rfl rfl <| mS 35 2 X10 (rm_draw G ) (u0 G) all0 at_32 rfl rfl rfl lr (by decide) all0 ?_
    rintro _ _ _ _ X13 ⟨xi1_14, rfl, q15⟩ K13 _ _
    refine sk [.int xi1_14, .int 2, .ref b2] rfl ?_
    have f16 := V12.k0 K13
    have f18 := (f11.wr W10).keep K13
    refine sC 36 2 xi1_14 X13 f16 (by decide) (lb rfl) (own_narC q15) at_35 rfl (by omega) (Or.inr (by omega)) (sx X13 f18 nc0) ?_
    rintro _ _ X17 ⟨_, _, W17⟩ _ V17
    have := W17.size
    have V19 := V17.as [.int 47, .int xi1_7, .int xi1_14, i0, i0] rfl
    refine oa 38 X17 at_36 rfl rfl <| oc 39 (v := 3) X17 at_38 rfl (by decide) <| oI 40 X17 at_39 rfl rfl <| mS 43 2 X17 (rm_draw G ) (u0 G) all0 at_40 rfl rfl rfl lr (by decide) all0 ?_
    rintro _ _ _ _ X20 ⟨xi1_21, rfl, q22⟩ K20 _ _
    refine sk [.int xi1_21, .int 3, .ref b2] rfl ?_
    have f23 := V19.k0 K20
    have f25 := (f18.wr W17).keep K20
    refine sC 44 3 xi1_21 X20 f23 (by decide) (lb rfl) (own_narC q22) at_43 rfl (by omega) (Or.inr (by omega)) (sx X20 f25 nc0) ?_
    rintro _ _ X24 ⟨_, _, W24⟩ _ V24
    have := W24.size
    have V26 := V24.as [.int 47, .int xi1_7, .int xi1_14, .int xi1_21, i0] rfl
    refine oa 46 X24 at_44 rfl rfl <| oc 47 (v := 4) X24 at_46 rfl (by decide) <| oI 48 X24 at_47 rfl rfl <| mS 51 2 X24 (rm_draw G ) (u0 G) all0 at_48 rfl rfl rfl lr (by decide) all0 ?_
    rintro _ _ _ _ X27 ⟨xi1_28, rfl, q29⟩ K27 _ _
    refine sk [.int xi1_28, .int 4, .ref b2] rfl ?_
    have f30 := V26.k0 K27
    have f32 := (f25.wr W24).keep K27
    refine sC 52 4 xi1_28 X27 f30 (by decide) (lb rfl) (own_narC q29) at_51 rfl (by omega) (Or.inr (by omega)) (sx X27 f32 nc0) ?_
    rintro _ _ X31 ⟨_, _, W31⟩ _ V31
    have := W31.size
    have V33 := V31.as [.int 47, .int xi1_7, .int xi1_14, .int xi1_21, .int xi1_28] rfl
    refine oi 54 X31 at_52 rfl rfl <| on 57 X31 at_54 rfl ((if0 _ _).trans (teq (by decide)).2) <| o_new 60 X31 (w6 G) (w7 G) (w8 G) at_57 rfl (by decide) (by decide) ?_
    intro _ h34 b34 X34 _ _ E34 A34 D34 _ _ S34
    have f35 : fd0 Z h34 b34 (.int 0) := D34 (Or.inr (w32 G)) fd_0
    have f36 : fd1 Z h34 b34 .null := D34 (Or.inr (w34 G)) fd_1
    refine oD 61 X34 at_60 rfl rfl <| oc 62 (v := 1) X34 at_61 rfl (by decide) <| nP (aty := .char) 64 1 X34 (w1 G) at_62 rfl (by decide) had_char ?_
    intro _ h37 b37 k37 X37 _ _ E37 V37 A37 C37 _
    have V38 : av0 Z h37 b37 k37 1 [i0] := V37.pad (pad_rep [] (.int (0 : Int32)) 1)
    refine oD 65 X37 at_64 rfl rfl <| oc 66 (v := 0) X37 at_65 rfl (by decide) <| oa 68 X37 at_66 rfl rfl <| oc 69 (v := 0) X37 at_68 rfl (by decide) ?_
    have f39 := (V33.ext E34).ext E37
    refine oC 70 (v := (.int 47)) X37 f39 ⟨by decide, by decide⟩ rfl at_69 rfl <| sC 71 0 47 X37 V38 (by decide) (lb rfl) (by decide) at_70 rfl (by omega) (Or.inr (by omega)) (sx X37 A37 nc0) ?_
    rintro _ _ X40 ⟨_, _, W40⟩ C40 V40
    have := W40.size
    have V41 := V40.as [.int 47] rfl
    have f42 := (A34.ext E37).wr W40
    have f43 := (f35.ext E37).oth W40 (by omega)
    have f44 := (f36.ext E37).oth W40 (by omega)
    have f45 := C40.safe (own_lt (by omega)) (C37.safe (own_lt (by omega)) S34)
    refine mP 74 1 X40 (rm_au4 G f42 f43 f44 V41 (by omega)) (u5 G) (sS (by omega) f45 all0) at_71 rfl rfl rfl lr (by decide) (aR (by omega) all0) ?_
    rintro _ _ _ _ X46 ⟨_, _, rfl, q49, q50, q51, q52, q53, _, _⟩ _ _ _
    refine sk [.ref b34] rfl <| oU 76 (l' := #[ii p1, ii p2, ii p3, ii p4, ii p5, ii 0, rr b2, rr b34, uu, uu, uu, uu, uu]) X46 at_74 rfl rfl rfl <| og 252 X46 at_76 (by decide) <| oc 253 (v := 0) X46 at_252 rfl (by decide) <| oS 255 (l' := #[ii p1, ii p2, ii p3, ii p4, ii p5, ii 0, rr b2, rr b34, ii 0, uu, uu, uu, uu]) X46 at_253 rfl rfl <| oi 257 X46 at_255 rfl rfl <| oc 258 (v := 1) X46 at_257 rfl (by decide) <| oY 273 X46 at_258 (by decide) (tlt (by decide)).1 <| oi 275 X46 at_273 rfl rfl <| oc 276 (v := 2) X46 at_275 rfl (by decide) <| oY 291 X46 at_276 (by decide) (tlt (by decide)).1 <| oi 293 X46 at_291 rfl rfl ?_
    refine oc 294 (v := 3) X46 at_293 rfl (by decide) <| oY 309 X46 at_294 (by decide) (tlt (by decide)).1 <| oi 311 X46 at_309 rfl rfl <| oc 312 (v := 4) X46 at_311 rfl (by decide) <| oY 327 X46 at_312 (by decide) (tlt (by decide)).1 <| oc 328 (v := (-1)) X46 at_327 rfl (by decide) <| oS 330 (l' := #[ii p1, ii p2, ii p3, ii p4, ii p5, ii 0, rr b2, rr b34, ii 0, ii (-1), uu, uu, uu]) X46 at_328 rfl rfl <| oi 332 X46 at_330 rfl rfl <| oc 333 (v := 1) X46 at_332 rfl (by decide) <| oY 354 X46 at_333 (by decide) (tlt (by decide)).1 <| oi 356 X46 at_354 rfl rfl <| oc 357 (v := 2) X46 at_356 rfl (by decide) ?_
    refine oY 378 X46 at_357 (by decide) (tlt (by decide)).1 <| oi 380 X46 at_378 rfl rfl <| oc 381 (v := 3) X46 at_380 rfl (by decide) <| oY 402 X46 at_381 (by decide) (tlt (by decide)).1 <| oi 404 X46 at_402 rfl rfl <| oc 405 (v := 4) X46 at_404 rfl (by decide) <| oY 426 X46 at_405 (by decide) (tlt (by decide)).1 <| oa 428 X46 at_426 rfl rfl <| mS 431 0 X46 (rm_au22 G q49 q50 q51 q52 q53 (by decide)) (u19 G) all0 at_428 rfl rfl rfl lr (by decide) all0 ?_
    rintro _ _ _ _ X56 rfl _ _ _
    refine sk [.null] rfl <| oU 433 (l' := #[ii p1, ii p2, ii p3, ii p4, ii p5, ii 0, rr b2, rr b34, ii 0, ii (-1), .val .null, uu, uu]) X56 at_431 rfl rfl rfl <| oi 435 X56 at_433 rfl rfl <| on 438 X56 at_435 rfl ((if0 _ _).trans (tlt (by decide)).2.1) <| o_aload 440 X56 at_438 rfl rfl rfl <| o_ifnonnullNo 443 X56 at_440 rfl <| oc 444 (v := 1) X56 at_443 rfl (by decide) <| og 448 X56 at_444 (by decide) ?_
    exact o_nret (y := (1 : Int32)) (t := .boolean) X56 at_448 rfl (by decide) (by simp) (by decide) (by decide) (fun _ CC => rfl)
  · refine o_irem 7 (v := 1) X0 at_6 rfl (by decide) hk1 <| oS 9 (l' := #[ii p1, ii p2, ii p3, ii p4, ii p5, ii 1, uu, uu, uu, uu, uu, uu, uu]) X0 at_7 rfl rfl <| oc 10 (v := 5) X0 at_9 rfl (by decide) <| nP (aty := .char) 12 5 X0 (w1 G) at_10 rfl (by decide) had_char ?_
    intro _ h57 b57 k57 X57 _ _ _ V57 A57 _ _
    have V58 : av0 Z h57 b57 k57 5 [i0, i0, i0, i0, i0] := V57.pad (pad_rep [] (.int (0 : Int32)) 5)
    refine oU 14 (l' := #[ii p1, ii p2, ii p3, ii p4, ii p5, ii 1, rr b57, uu, uu, uu, uu, uu, uu]) X57 at_12 rfl rfl rfl <| oa 16 X57 at_14 rfl rfl <| oc 17 (v := 0) X57 at_16 rfl (by decide) <| ob 19 (v := 47) X57 at_17 rfl (by decide) <| sC 20 0 47 X57 V58 (by decide) (lb rfl) (by decide) at_19 rfl (by omega) (Or.inr (by omega)) (sx X57 A57 nc0) ?_
    rintro _ _ X59 ⟨_, _, W59⟩ _ V59
    have := W59.size
    have V60 := V59.as [.int 47, i0, i0, i0, i0] rfl
    refine oa 22 X59 at_20 rfl rfl <| oc 23 (v := 1) X59 at_22 rfl (by decide) <| oI 24 X59 at_23 rfl rfl <| mS 27 2 X59 (rm_draw G ) (u0 G) all0 at_24 rfl rfl rfl lr (by decide) all0 ?_
    rintro _ _ _ _ X61 ⟨xi1_62, rfl, q63⟩ K61 _ _
    refine sk [.int xi1_62, .int 1, .ref b57] rfl ?_
    have f64 := V60.k0 K61
    have f66 := (A57.wr W59).keep K61
    refine sC 28 1 xi1_62 X61 f64 (by decide) (lb rfl) (own_narC q63) at_27 rfl (by omega) (Or.inr (by omega)) (sx X61 f66 nc0) ?_
    rintro _ _ X65 ⟨_, _, W65⟩ _ V65
    have := W65.size
    have V67 := V65.as [.int 47, .int xi1_62, i0, i0, i0] rfl
    refine oa 30 X65 at_28 rfl rfl <| oc 31 (v := 2) X65 at_30 rfl (by decide) <| oI 32 X65 at_31 rfl rfl <| mS 35 2 X65 (rm_draw G ) (u0 G) all0 at_32 rfl rfl rfl lr (by decide) all0 ?_
    rintro _ _ _ _ X68 ⟨xi1_69, rfl, q70⟩ K68 _ _
    refine sk [.int xi1_69, .int 2, .ref b57] rfl ?_
    have f71 := V67.k0 K68
    have f73 := (f66.wr W65).keep K68
    refine sC 36 2 xi1_69 X68 f71 (by decide) (lb rfl) (own_narC q70) at_35 rfl (by omega) (Or.inr (by omega)) (sx X68 f73 nc0) ?_
    rintro _ _ X72 ⟨_, _, W72⟩ _ V72
    have := W72.size
    have V74 := V72.as [.int 47, .int xi1_62, .int xi1_69, i0, i0] rfl
    refine oa 38 X72 at_36 rfl rfl <| oc 39 (v := 3) X72 at_38 rfl (by decide) <| oI 40 X72 at_39 rfl rfl <| mS 43 2 X72 (rm_draw G ) (u0 G) all0 at_40 rfl rfl rfl lr (by decide) all0 ?_
    rintro _ _ _ _ X75 ⟨xi1_76, rfl, q77⟩ K75 _ _
    refine sk [.int xi1_76, .int 3, .ref b57] rfl ?_
    have f78 := V74.k0 K75
    have f80 := (f73.wr W72).keep K75
    refine sC 44 3 xi1_76 X75 f78 (by decide) (lb rfl) (own_narC q77) at_43 rfl (by omega) (Or.inr (by omega)) (sx X75 f80 nc0) ?_
    rintro _ _ X79 ⟨_, _, W79⟩ _ V79
    have := W79.size
    have V81 := V79.as [.int 47, .int xi1_62, .int xi1_69, .int xi1_76, i0] rfl
    refine oa 46 X79 at_44 rfl rfl <| oc 47 (v := 4) X79 at_46 rfl (by decide) <| oI 48 X79 at_47 rfl rfl <| mS 51 2 X79 (rm_draw G ) (u0 G) all0 at_48 rfl rfl rfl lr (by decide) all0 ?_
    rintro _ _ _ _ X82 ⟨xi1_83, rfl, q84⟩ K82 _ _
    refine sk [.int xi1_83, .int 4, .ref b57] rfl ?_
    have f85 := V81.k0 K82
    have f87 := (f80.wr W79).keep K82
    refine sC 52 4 xi1_83 X82 f85 (by decide) (lb rfl) (own_narC q84) at_51 rfl (by omega) (Or.inr (by omega)) (sx X82 f87 nc0) ?_
    rintro _ _ X86 ⟨_, _, W86⟩ _ V86
    have := W86.size
    have V88 := V86.as [.int 47, .int xi1_62, .int xi1_69, .int xi1_76, .int xi1_83] rfl
    refine oi 54 X86 at_52 rfl rfl <| oy 79 X86 at_54 (by decide) ((if0 _ _).trans (feq (by decide)).2) <| oi 81 X86 at_79 rfl rfl <| oc 82 (v := 1) X86 at_81 rfl (by decide) <| oN 85 X86 at_82 rfl (teq (by decide)).2 <| o_new 88 X86 (w6 G) (w7 G) (w8 G) at_85 rfl (by decide) (by decide) ?_
    intro _ h89 b89 X89 _ _ E89 A89 D89 _ _ S89
    have f90 : fd0 Z h89 b89 (.int 0) := D89 (Or.inr (w32 G)) fd_0
    have f91 : fd1 Z h89 b89 .null := D89 (Or.inr (w34 G)) fd_1
    refine oD 89 X89 at_88 rfl rfl <| oc 90 (v := 2) X89 at_89 rfl (by decide) <| nP (aty := .char) 92 2 X89 (w1 G) at_90 rfl (by decide) had_char ?_
    intro _ h92 b92 k92 X92 _ _ E92 V92 A92 C92 _
    have V93 : av0 Z h92 b92 k92 2 [i0, i0] := V92.pad (pad_rep [] (.int (0 : Int32)) 2)
    refine oD 93 X92 at_92 rfl rfl <| oc 94 (v := 0) X92 at_93 rfl (by decide) <| oa 96 X92 at_94 rfl rfl <| oc 97 (v := 0) X92 at_96 rfl (by decide) ?_
    have f94 := (V88.ext E89).ext E92
    refine oC 98 (v := (.int 47)) X92 f94 ⟨by decide, by decide⟩ rfl at_97 rfl <| sC 99 0 47 X92 V93 (by decide) (lb rfl) (by decide) at_98 rfl (by omega) (Or.inr (by omega)) (sx X92 A92 nc0) ?_
    rintro _ _ X95 ⟨_, _, W95⟩ C95 V95
    have := W95.size
    have V96 := V95.as [.int 47, i0] rfl
    refine oD 100 X95 at_99 rfl rfl <| oc 101 (v := 1) X95 at_100 rfl (by decide) <| oa 103 X95 at_101 rfl rfl <| oc 104 (v := 1) X95 at_103 rfl (by decide) ?_
    have f97 := f94.oth W95 (by omega)
    refine oC 105 (v := (.int xi1_62)) X95 f97 ⟨by decide, by decide⟩ rfl at_104 rfl ?_
    have f99 := A92.wr W95
    refine sC 106 1 xi1_62 X95 V96 (by decide) (lb rfl) (own_narC q63) at_105 rfl (by omega) (Or.inr (by omega)) (sx X95 f99 nc0) ?_
    rintro _ _ X98 ⟨_, _, W98⟩ C98 V98
    have := W98.size
    have V100 := V98.as [.int 47, .int xi1_62] rfl
    have f101 := ((A89.ext E92).wr W95).wr W98
    have f102 := ((f90.ext E92).oth W95 (by omega)).oth W98 (by omega)
    have f103 := ((f91.ext E92).oth W95 (by omega)).oth W98 (by omega)
    have f104 := C98.safe (own_lt (by omega)) (C95.safe (own_lt (by omega)) (C92.safe (own_lt (by omega)) S89))
    refine mP 109 1 X98 (rm_au27 G f101 f102 f103 V100 q63 (by omega)) (u5 G) (sS (by omega) f104 all0) at_106 rfl rfl rfl lr (by decide) (aR (by omega) all0) ?_
    rintro _ _ _ _ X105 ⟨_, _, rfl, q108, q109, q110, q111, q112, _, _⟩ K105 _ _
    refine sk [.ref b89] rfl <| oU 111 (l' := #[ii p1, ii p2, ii p3, ii p4, ii p5, ii 1, rr b57, rr b89, uu, uu, uu, uu, uu]) X105 at_109 rfl rfl rfl <| og 252 X105 at_111 (by decide) ?_
    refine jn 327 (fun a => (a = (0 : Int32) ∧ ¬ xi1_62 = (47 : Int32)) ∨ (a = (1 : Int32) ∧ xi1_62 = (47 : Int32))) (fun a => #[ii p1, ii p2, ii p3, ii p4, ii p5, ii 1, rr b57, rr b89, ii a, uu, uu, uu, uu]) ?_ ?_
    · rintro _ (⟨rfl, hj115_0⟩ | ⟨rfl, hj115_0⟩)
      · show Go _ _ _ _ (State.setTop _ (mkF _ 327 #[ii p1, ii p2, ii p3, ii p4, ii p5, ii 1, rr b57, rr b89, ii 0, uu, uu, uu, uu] []))
        refine jn 426 (fun a => (a = (-1 : Int32) ∧ ¬ xi1_62 = (46 : Int32)) ∨ (a = (1 : Int32) ∧ xi1_62 = (46 : Int32))) (fun a => #[ii p1, ii p2, ii p3, ii p4, ii p5, ii 1, rr b57, rr b89, ii 0, ii a, uu, uu, uu]) ?_ ?_
        · rintro _ (⟨rfl, hj116_0⟩ | ⟨rfl, hj116_0⟩)
          · show Go _ _ _ _ (State.setTop _ (mkF _ 426 #[ii p1, ii p2, ii p3, ii p4, ii p5, ii 1, rr b57, rr b89, ii 0, ii (-1), uu, uu, uu] []))
            refine oa 428 X105 at_426 rfl rfl <| mS 431 0 X105 (rm_au42 G q108 q109 q110 q111 (own_bne (by decide) q63 hj116_0) (own_bne (by decide) q63 hj115_0) (by decide)) (u19 G) all0 at_428 rfl rfl rfl lr (by decide) all0 ?_
            rintro _ _ _ _ X117 rfl _ _ _
            refine sk [.null] rfl <| oU 433 (l' := #[ii p1, ii p2, ii p3, ii p4, ii p5, ii 1, rr b57, rr b89, ii 0, ii (-1), .val .null, uu, uu]) X117 at_431 rfl rfl rfl <| oi 435 X117 at_433 rfl rfl <| on 438 X117 at_435 rfl ((if0 _ _).trans (tlt (by decide)).2.1) <| o_aload 440 X117 at_438 rfl rfl rfl <| o_ifnonnullNo 443 X117 at_440 rfl <| oc 444 (v := 1) X117 at_443 rfl (by decide) <| og 448 X117 at_444 (by decide) ?_
            exact o_nret (y := (1 : Int32)) (t := .boolean) X117 at_448 rfl (by decide) (by simp) (by decide) (by decide) (fun _ CC => rfl)
          · show Go _ _ _ _ (State.setTop _ (mkF _ 426 #[ii p1, ii p2, ii p3, ii p4, ii p5, ii 1, rr b57, rr b89, ii 0, ii 1, uu, uu, uu] []))
            subst hj116_0
            have V118 := q111.as [.int 47, .int 46] rfl
            refine oa 428 X105 at_426 rfl rfl <| mS 431 0 X105 (rm_au46 G q108 q109 q110 V118 (by decide) (by decide) (by decide)) (u19 G) all0 at_428 rfl rfl rfl lr (by decide) all0 ?_
            rintro _ _ _ _ X119 ⟨xa1_120, _, _, rfl, q123, q124, q125, q126, _⟩ _ _ _
            refine sk [.ref xa1_120] rfl <| oU 433 (l' := #[ii p1, ii p2, ii p3, ii p4, ii p5, ii 1, rr b57, rr b89, ii 0, ii 1, rr xa1_120, uu, uu]) X119 at_431 rfl rfl rfl <| oi 435 X119 at_433 rfl rfl <| oy 449 X119 at_435 (by decide) ((if0 _ _).trans (flt (by decide)).2.1) <| oa 451 X119 at_449 rfl rfl <| ifnonnullYesJ 456 X119 at_451 (by decide) <| oi 458 X119 at_456 rfl rfl <| oi 460 X119 at_458 rfl rfl <| o_isub 461 (v := 0) X119 at_460 rfl (by decide) <| oS 463 (l' := #[ii p1, ii p2, ii p3, ii p4, ii p5, ii 1, rr b57, rr b89, ii 0, ii 1, rr xa1_120, ii 0, uu]) X119 at_461 rfl rfl <| oa 465 X119 at_463 rfl rfl <| mV 468 0 X119 q123 (rm_au18 G q123 q124 q125 q126) (u25 G) all0 at_465 rfl rfl rfl lr (by decide) all0 ?_
            rintro _ _ _ _ X128 rfl _ _ _
            refine sk [i0] rfl <| oi 470 X128 at_468 rfl rfl <| oY 475 X128 at_470 (by decide) (teq (by decide)).1 <| oc 476 (v := 1) X128 at_475 rfl (by decide) <| oS 478 (l' := #[ii p1, ii p2, ii p3, ii p4, ii p5, ii 1, rr b57, rr b89, ii 0, ii 1, rr xa1_120, ii 0, ii 1]) X128 at_476 rfl rfl <| oi 480 X128 at_478 rfl rfl <| oc 481 (v := 1) X128 at_480 rfl (by decide) <| oY 512 X128 at_481 (by decide) (tlt (by decide)).1 <| oi 514 X128 at_512 rfl rfl <| oc 515 (v := 2) X128 at_514 rfl (by decide) <| oY 546 X128 at_515 (by decide) (tlt (by decide)).1 <| oi 548 X128 at_546 rfl rfl ?_
            refine oc 549 (v := 3) X128 at_548 rfl (by decide) <| oY 580 X128 at_549 (by decide) (tlt (by decide)).1 <| oi 582 X128 at_580 rfl rfl ?_
            exact o_nret (y := (1 : Int32)) (t := .boolean) X128 at_582 rfl (by decide) (by simp) (by decide) (by decide) (fun _ CC => rfl)
        · intro J2
          refine oc 328 (v := (-1)) X105 at_327 rfl (by decide) <| oS 330 (l' := #[ii p1, ii p2, ii p3, ii p4, ii p5, ii 1, rr b57, rr b89, ii 0, ii (-1), uu, uu, uu]) X105 at_328 rfl rfl <| oi 332 X105 at_330 rfl rfl <| oc 333 (v := 1) X105 at_332 rfl (by decide) <| oN 336 X105 at_333 rfl (flt (by decide)).1 <| oi 338 X105 at_336 rfl rfl <| oc 339 (v := 1) X105 at_338 rfl (by decide) <| oN 342 X105 at_339 rfl (tlt (by decide)).2.1 <| oa 344 X105 at_342 rfl rfl <| oc 345 (v := 1) X105 at_344 rfl (by decide) ?_
          have f129 := (f97.oth W98 (by omega)).k1 K105 (by omega)
          refine oC 346 (v := (.int xi1_62)) X105 f129 ⟨by decide, by decide⟩ rfl at_345 rfl <| ob 348 (v := 46) X105 at_346 rfl (by decide) ?_
          by_cases hc130 : xi1_62 = (46 : Int32)
          · refine oN 351 X105 at_348 rfl (teq hc130).2 <| oc 352 (v := 1) X105 at_351 rfl (by decide) <| oS 354 (l' := #[ii p1, ii p2, ii p3, ii p4, ii p5, ii 1, rr b57, rr b89, ii 0, ii 1, uu, uu, uu]) X105 at_352 rfl rfl <| oi 356 X105 at_354 rfl rfl <| oc 357 (v := 2) X105 at_356 rfl (by decide) <| oY 378 X105 at_357 (by decide) (tlt (by decide)).1 <| oi 380 X105 at_378 rfl rfl <| oc 381 (v := 3) X105 at_380 rfl (by decide) <| oY 402 X105 at_381 (by decide) (tlt (by decide)).1 <| oi 404 X105 at_402 rfl rfl <| oc 405 (v := 4) X105 at_404 rfl (by decide) <| oY 426 X105 at_405 (by decide) (tlt (by decide)).1 ?_
            exact J2 1 (Or.inr (⟨rfl, hc130⟩))
          · refine oY 354 X105 at_348 (by decide) (feq hc130).2 <| oi 356 X105 at_354 rfl rfl <| oc 357 (v := 2) X105 at_356 rfl (by decide) <| oY 378 X105 at_357 (by decide) (tlt (by decide)).1 <| oi 380 X105 at_378 rfl rfl <| oc 381 (v := 3) X105 at_380 rfl (by decide) <| oY 402 X105 at_381 (by decide) (tlt (by decide)).1 <| oi 404 X105 at_402 rfl rfl <| oc 405 (v := 4) X105 at_404 rfl (by decide) <| oY 426 X105 at_405 (by decide) (tlt (by decide)).1 ?_
            exact J2 (-1) (Or.inl ⟨rfl, hc130⟩)
      · show Go _ _ _ _ (State.setTop _ (mkF _ 327 #[ii p1, ii p2, ii p3, ii p4, ii p5, ii 1, rr b57, rr b89, ii 1, uu, uu, uu, uu] []))
        refine oc 328 (v := (-1)) X105 at_327 rfl (by decide) <| oS 330 (l' := #[ii p1, ii p2, ii p3, ii p4, ii p5, ii 1, rr b57, rr b89, ii 1, ii (-1), uu, uu, uu]) X105 at_328 rfl rfl <| oi 332 X105 at_330 rfl rfl <| oc 333 (v := 1) X105 at_332 rfl (by decide) <| oN 336 X105 at_333 rfl (flt (by decide)).1 <| oi 338 X105 at_336 rfl rfl <| oc 339 (v := 1) X105 at_338 rfl (by decide) <| oY 354 X105 at_339 (by decide) (flt (by decide)).2.1 <| oi 356 X105 at_354 rfl rfl <| oc 357 (v := 2) X105 at_356 rfl (by decide) <| oY 378 X105 at_357 (by decide) (tlt (by decide)).1 <| oi 380 X105 at_378 rfl rfl ?_
        refine oc 381 (v := 3) X105 at_380 rfl (by decide) <| oY 402 X105 at_381 (by decide) (tlt (by decide)).1 <| oi 404 X105 at_402 rfl rfl <| oc 405 (v := 4) X105 at_404 rfl (by decide) <| oY 426 X105 at_405 (by decide) (tlt (by decide)).1 ?_
        subst hj115_0
        have V131 := q111.as [.int 47, .int 47] rfl
        refine oa 428 X105 at_426 rfl rfl <| mS 431 0 X105 (rm_au52 G q108 q109 q110 V131 q112 (by decide)) (u19 G) all0 at_428 rfl rfl rfl lr (by decide) all0 ?_
        rintro _ _ _ _ X132 rfl _ _ _
        refine sk [.null] rfl <| oU 433 (l' := #[ii p1, ii p2, ii p3, ii p4, ii p5, ii 1, rr b57, rr b89, ii 1, ii (-1), .val .null, uu, uu]) X132 at_431 rfl rfl rfl <| oi 435 X132 at_433 rfl rfl <| on 438 X132 at_435 rfl ((if0 _ _).trans (tlt (by decide)).2.1) <| o_aload 440 X132 at_438 rfl rfl rfl <| o_ifnonnullNo 443 X132 at_440 rfl <| oc 444 (v := 1) X132 at_443 rfl (by decide) <| og 448 X132 at_444 (by decide) ?_
        exact o_nret (y := (1 : Int32)) (t := .boolean) X132 at_448 rfl (by decide) (by simp) (by decide) (by decide) (fun _ CC => rfl)
    · intro J1
      refine oc 253 (v := 0) X105 at_252 rfl (by decide) <| oS 255 (l' := #[ii p1, ii p2, ii p3, ii p4, ii p5, ii 1, rr b57, rr b89, ii 0, uu, uu, uu, uu]) X105 at_253 rfl rfl <| oi 257 X105 at_255 rfl rfl <| oc 258 (v := 1) X105 at_257 rfl (by decide) <| oN 261 X105 at_258 rfl (flt (by decide)).1 <| oa 263 X105 at_261 rfl rfl <| oc 264 (v := 1) X105 at_263 rfl (by decide) ?_
      have f133 := (f97.oth W98 (by omega)).k1 K105 (by omega)
      refine oC 265 (v := (.int xi1_62)) X105 f133 ⟨by decide, by decide⟩ rfl at_264 rfl <| ob 267 (v := 47) X105 at_265 rfl (by decide) ?_
      by_cases hc134 : xi1_62 = (47 : Int32)
      · refine oN 270 X105 at_267 rfl (teq hc134).2 <| oc 271 (v := 1) X105 at_270 rfl (by decide) <| oS 273 (l' := #[ii p1, ii p2, ii p3, ii p4, ii p5, ii 1, rr b57, rr b89, ii 1, uu, uu, uu, uu]) X105 at_271 rfl rfl <| oi 275 X105 at_273 rfl rfl <| oc 276 (v := 2) X105 at_275 rfl (by decide) <| oY 291 X105 at_276 (by decide) (tlt (by decide)).1 <| oi 293 X105 at_291 rfl rfl <| oc 294 (v := 3) X105 at_293 rfl (by decide) <| oY 309 X105 at_294 (by decide) (tlt (by decide)).1 <| oi 311 X105 at_309 rfl rfl <| oc 312 (v := 4) X105 at_311 rfl (by decide) <| oY 327 X105 at_312 (by decide) (tlt (by decide)).1 ?_
        exact J1 1 (Or.inr (⟨rfl, hc134⟩))
      · refine oY 273 X105 at_267 (by decide) (feq hc134).2 <| oi 275 X105 at_273 rfl rfl <| oc 276 (v := 2) X105 at_275 rfl (by decide) <| oY 291 X105 at_276 (by decide) (tlt (by decide)).1 <| oi 293 X105 at_291 rfl rfl <| oc 294 (v := 3) X105 at_293 rfl (by decide) <| oY 309 X105 at_294 (by decide) (tlt (by decide)).1 <| oi 311 X105 at_309 rfl rfl <| oc 312 (v := 4) X105 at_311 rfl (by decide) <| oY 327 X105 at_312 (by decide) (tlt (by decide)).1 ?_
        exact J1 0 (Or.inl ⟨rfl, hc134⟩)
  · refine o_irem 7 (v := 2) X0 at_6 rfl (by decide) hk1 <| oS 9 (l' := #[ii p1, ii p2, ii p3, ii p4, ii p5, ii 2, uu, uu, uu, uu, uu, uu, uu]) X0 at_7 rfl rfl <| oc 10 (v := 5) X0 at_9 rfl (by decide) <| nP (aty := .char) 12 5 X0 (w1 G) at_10 rfl (by decide) had_char ?_
    intro _ h135 b135 k135 X135 _ _ _ V135 A135 _ _
    have V136 : av0 Z h135 b135 k135 5 [i0, i0, i0, i0, i0] := V135.pad (pad_rep [] (.int (0 : Int32)) 5)
    refine oU 14 (l' := #[ii p1, ii p2, ii p3, ii p4, ii p5, ii 2, rr b135, uu, uu, uu, uu, uu, uu]) X135 at_12 rfl rfl rfl <| oa 16 X135 at_14 rfl rfl <| oc 17 (v := 0) X135 at_16 rfl (by decide) <| ob 19 (v := 47) X135 at_17 rfl (by decide) <| sC 20 0 47 X135 V136 (by decide) (lb rfl) (by decide) at_19 rfl (by omega) (Or.inr (by omega)) (sx X135 A135 nc0) ?_
    rintro _ _ X137 ⟨_, _, W137⟩ _ V137
    have := W137.size
    have V138 := V137.as [.int 47, i0, i0, i0, i0] rfl
    refine oa 22 X137 at_20 rfl rfl <| oc 23 (v := 1) X137 at_22 rfl (by decide) <| oI 24 X137 at_23 rfl rfl <| mS 27 2 X137 (rm_draw G ) (u0 G) all0 at_24 rfl rfl rfl lr (by decide) all0 ?_
    rintro _ _ _ _ X139 ⟨xi1_140, rfl, q141⟩ K139 _ _
    refine sk [.int xi1_140, .int 1, .ref b135] rfl ?_
    have f142 := V138.k0 K139
    have f144 := (A135.wr W137).keep K139
    refine sC 28 1 xi1_140 X139 f142 (by decide) (lb rfl) (own_narC q141) at_27 rfl (by omega) (Or.inr (by omega)) (sx X139 f144 nc0) ?_
    rintro _ _ X143 ⟨_, _, W143⟩ _ V143
    have := W143.size
    have V145 := V143.as [.int 47, .int xi1_140, i0, i0, i0] rfl
    refine oa 30 X143 at_28 rfl rfl <| oc 31 (v := 2) X143 at_30 rfl (by decide) <| oI 32 X143 at_31 rfl rfl <| mS 35 2 X143 (rm_draw G ) (u0 G) all0 at_32 rfl rfl rfl lr (by decide) all0 ?_
    rintro _ _ _ _ X146 ⟨xi1_147, rfl, q148⟩ K146 _ _
    refine sk [.int xi1_147, .int 2, .ref b135] rfl ?_
    have f149 := V145.k0 K146
    have f151 := (f144.wr W143).keep K146
    refine sC 36 2 xi1_147 X146 f149 (by decide) (lb rfl) (own_narC q148) at_35 rfl (by omega) (Or.inr (by omega)) (sx X146 f151 nc0) ?_
    rintro _ _ X150 ⟨_, _, W150⟩ _ V150
    have := W150.size
    have V152 := V150.as [.int 47, .int xi1_140, .int xi1_147, i0, i0] rfl
    refine oa 38 X150 at_36 rfl rfl <| oc 39 (v := 3) X150 at_38 rfl (by decide) <| oI 40 X150 at_39 rfl rfl <| mS 43 2 X150 (rm_draw G ) (u0 G) all0 at_40 rfl rfl rfl lr (by decide) all0 ?_
    rintro _ _ _ _ X153 ⟨xi1_154, rfl, q155⟩ K153 _ _
    refine sk [.int xi1_154, .int 3, .ref b135] rfl ?_
    have f156 := V152.k0 K153
    have f158 := (f151.wr W150).keep K153
    refine sC 44 3 xi1_154 X153 f156 (by decide) (lb rfl) (own_narC q155) at_43 rfl (by omega) (Or.inr (by omega)) (sx X153 f158 nc0) ?_
    rintro _ _ X157 ⟨_, _, W157⟩ _ V157
    have := W157.size
    have V159 := V157.as [.int 47, .int xi1_140, .int xi1_147, .int xi1_154, i0] rfl
    refine oa 46 X157 at_44 rfl rfl <| oc 47 (v := 4) X157 at_46 rfl (by decide) <| oI 48 X157 at_47 rfl rfl <| mS 51 2 X157 (rm_draw G ) (u0 G) all0 at_48 rfl rfl rfl lr (by decide) all0 ?_
    rintro _ _ _ _ X160 ⟨xi1_161, rfl, q162⟩ K160 _ _
    refine sk [.int xi1_161, .int 4, .ref b135] rfl ?_
    have f163 := V159.k0 K160
    have f165 := (f158.wr W157).keep K160
    refine sC 52 4 xi1_161 X160 f163 (by decide) (lb rfl) (own_narC q162) at_51 rfl (by omega) (Or.inr (by omega)) (sx X160 f165 nc0) ?_
    rintro _ _ X164 ⟨_, _, W164⟩ _ V164
    have := W164.size
    have V166 := V164.as [.int 47, .int xi1_140, .int xi1_147, .int xi1_154, .int xi1_161] rfl
    refine oi 54 X164 at_52 rfl rfl <| oy 79 X164 at_54 (by decide) ((if0 _ _).trans (feq (by decide)).2) <| oi 81 X164 at_79 rfl rfl <| oc 82 (v := 1) X164 at_81 rfl (by decide) <| oY 114 X164 at_82 (by decide) (feq (by decide)).2 <| oi 116 X164 at_114 rfl rfl <| oc 117 (v := 2) X164 at_116 rfl (by decide) <| oN 120 X164 at_117 rfl (teq (by decide)).2 <| o_new 123 X164 (w6 G) (w7 G) (w8 G) at_120 rfl (by decide) (by decide) ?_
    intro _ h167 b167 X167 _ _ E167 A167 D167 _ _ S167
    have f168 : fd0 Z h167 b167 (.int 0) := D167 (Or.inr (w32 G)) fd_0
    have f169 : fd1 Z h167 b167 .null := D167 (Or.inr (w34 G)) fd_1
    refine oD 124 X167 at_123 rfl rfl <| oc 125 (v := 3) X167 at_124 rfl (by decide) <| nP (aty := .char) 127 3 X167 (w1 G) at_125 rfl (by decide) had_char ?_
    intro _ h170 b170 k170 X170 _ _ E170 V170 A170 C170 _
    have V171 : av0 Z h170 b170 k170 3 [i0, i0, i0] := V170.pad (pad_rep [] (.int (0 : Int32)) 3)
    refine oD 128 X170 at_127 rfl rfl <| oc 129 (v := 0) X170 at_128 rfl (by decide) <| oa 131 X170 at_129 rfl rfl <| oc 132 (v := 0) X170 at_131 rfl (by decide) ?_
    have f172 := (V166.ext E167).ext E170
    refine oC 133 (v := (.int 47)) X170 f172 ⟨by decide, by decide⟩ rfl at_132 rfl <| sC 134 0 47 X170 V171 (by decide) (lb rfl) (by decide) at_133 rfl (by omega) (Or.inr (by omega)) (sx X170 A170 nc0) ?_
    rintro _ _ X173 ⟨_, _, W173⟩ C173 V173
    have := W173.size
    have V174 := V173.as [.int 47, i0, i0] rfl
    refine oD 135 X173 at_134 rfl rfl <| oc 136 (v := 1) X173 at_135 rfl (by decide) <| oa 138 X173 at_136 rfl rfl <| oc 139 (v := 1) X173 at_138 rfl (by decide) ?_
    have f175 := f172.oth W173 (by omega)
    refine oC 140 (v := (.int xi1_140)) X173 f175 ⟨by decide, by decide⟩ rfl at_139 rfl ?_
    have f177 := A170.wr W173
    refine sC 141 1 xi1_140 X173 V174 (by decide) (lb rfl) (own_narC q141) at_140 rfl (by omega) (Or.inr (by omega)) (sx X173 f177 nc0) ?_
    rintro _ _ X176 ⟨_, _, W176⟩ C176 V176
    have := W176.size
    have V178 := V176.as [.int 47, .int xi1_140, i0] rfl
    refine oD 142 X176 at_141 rfl rfl <| oc 143 (v := 2) X176 at_142 rfl (by decide) <| oa 145 X176 at_143 rfl rfl <| oc 146 (v := 2) X176 at_145 rfl (by decide) ?_
    have f179 := f175.oth W176 (by omega)
    refine oC 147 (v := (.int xi1_147)) X176 f179 ⟨by decide, by decide⟩ rfl at_146 rfl ?_
    have f181 := f177.wr W176
    refine sC 148 2 xi1_147 X176 V178 (by decide) (lb rfl) (own_narC q148) at_147 rfl (by omega) (Or.inr (by omega)) (sx X176 f181 nc0) ?_
    rintro _ _ X180 ⟨_, _, W180⟩ C180 V180
    have := W180.size
    have V182 := V180.as [.int 47, .int xi1_140, .int xi1_147] rfl
    have f183 := (((A167.ext E170).wr W173).wr W176).wr W180
    have f184 := (((f168.ext E170).oth W173 (by omega)).oth W176 (by omega)).oth W180 (by omega)
    have f185 := (((f169.ext E170).oth W173 (by omega)).oth W176 (by omega)).oth W180 (by omega)
    have f186 := C180.safe (own_lt (by omega)) (C176.safe (own_lt (by omega)) (C173.safe (own_lt (by omega)) (C170.safe (own_lt (by omega)) S167)))
    refine mP 151 1 X180 (rm_au57 G f183 f184 f185 V182 q141 q148 (by omega)) (u5 G) (sS (by omega) f186 all0) at_148 rfl rfl rfl lr (by decide) (aR (by omega) all0) ?_
    rintro _ _ _ _ X187 ⟨_, _, rfl, q190, q191, q192, q193, q194, _, _⟩ K187 _ _
    refine sk [.ref b167] rfl <| oU 153 (l' := #[ii p1, ii p2, ii p3, ii p4, ii p5, ii 2, rr b135, rr b167, uu, uu, uu, uu, uu]) X187 at_151 rfl rfl rfl <| og 252 X187 at_153 (by decide) ?_
    refine jn 327 (fun a => (a = (0 : Int32) ∧ ¬ xi1_140 = (47 : Int32) ∧ ¬ xi1_147 = (47 : Int32)) ∨ (a = (1 : Int32) ∧ xi1_140 = (47 : Int32) ∧ ¬ xi1_147 = (47 : Int32)) ∨ (a = (2 : Int32) ∧ xi1_147 = (47 : Int32))) (fun a => #[ii p1, ii p2, ii p3, ii p4, ii p5, ii 2, rr b135, rr b167, ii a, uu, uu, uu, uu]) ?_ ?_
    · rintro _ (⟨rfl, hj197_0, hj197_1⟩ | ⟨rfl, hj197_0, hj197_1⟩ | ⟨rfl, hj197_0⟩)
      · show Go _ _ _ _ (State.setTop _ (mkF _ 327 #[ii p1, ii p2, ii p3, ii p4, ii p5, ii 2, rr b135, rr b167, ii 0, uu, uu, uu, uu] []))
        refine jn 426 (fun a => (a = (-1 : Int32) ∧ ¬ xi1_140 = (46 : Int32) ∧ ¬ xi1_147 = (46 : Int32)) ∨ (a = (1 : Int32) ∧ xi1_140 = (46 : Int32) ∧ ¬ xi1_147 = (46 : Int32)) ∨ (a = (2 : Int32) ∧ xi1_147 = (46 : Int32))) (fun a => #[ii p1, ii p2, ii p3, ii p4, ii p5, ii 2, rr b135, rr b167, ii 0, ii a, uu, uu, uu]) ?_ ?_
        · rintro _ (⟨rfl, hj198_0, hj198_1⟩ | ⟨rfl, hj198_0, hj198_1⟩ | ⟨rfl, hj198_0⟩)
          · show Go _ _ _ _ (State.setTop _ (mkF _ 426 #[ii p1, ii p2, ii p3, ii p4, ii p5, ii 2, rr b135, rr b167, ii 0, ii (-1), uu, uu, uu] []))
            refine oa 428 X187 at_426 rfl rfl <| mS 431 0 X187 (rm_au70 G q190 q191 q192 q193 (own_bne (by decide) q141 hj198_0) (own_bne (by decide) q141 hj197_0) (own_bne (by decide) q148 hj198_1) (own_bne (by decide) q148 hj197_1) (by decide)) (u19 G) all0 at_428 rfl rfl rfl lr (by decide) all0 ?_
            rintro _ _ _ _ X199 rfl _ _ _
            refine sk [.null] rfl <| oU 433 (l' := #[ii p1, ii p2, ii p3, ii p4, ii p5, ii 2, rr b135, rr b167, ii 0, ii (-1), .val .null, uu, uu]) X199 at_431 rfl rfl rfl <| oi 435 X199 at_433 rfl rfl <| on 438 X199 at_435 rfl ((if0 _ _).trans (tlt (by decide)).2.1) <| o_aload 440 X199 at_438 rfl rfl rfl <| o_ifnonnullNo 443 X199 at_440 rfl <| oc 444 (v := 1) X199 at_443 rfl (by decide) <| og 448 X199 at_444 (by decide) ?_
            exact o_nret (y := (1 : Int32)) (t := .boolean) X199 at_448 rfl (by decide) (by simp) (by decide) (by decide) (fun _ CC => rfl)
          · show Go _ _ _ _ (State.setTop _ (mkF _ 426 #[ii p1, ii p2, ii p3, ii p4, ii p5, ii 2, rr b135, rr b167, ii 0, ii 1, uu, uu, uu] []))
            subst hj198_0
            have V200 := q193.as [.int 47, .int 46, .int (xi1_147.toInt8.toInt32)] rfl
            refine oa 428 X187 at_426 rfl rfl <| mS 431 0 X187 (rm_au74 G q190 q191 q192 V200 (own_bne (by decide) q148 hj198_1) (own_bne (by decide) q148 hj197_1) (by decide) (by decide) (by decide)) (u19 G) all0 at_428 rfl rfl rfl lr (by decide) all0 ?_
            rintro _ _ _ _ X201 ⟨xa1_202, _, _, rfl, q205, q206, q207, _, q209, _, _, _⟩ K201 _ _
            refine sk [.ref xa1_202] rfl <| oU 433 (l' := #[ii p1, ii p2, ii p3, ii p4, ii p5, ii 2, rr b135, rr b167, ii 0, ii 1, rr xa1_202, uu, uu]) X201 at_431 rfl rfl rfl <| oi 435 X201 at_433 rfl rfl <| oy 449 X201 at_435 (by decide) ((if0 _ _).trans (flt (by decide)).2.1) <| oa 451 X201 at_449 rfl rfl <| ifnonnullYesJ 456 X201 at_451 (by decide) <| oi 458 X201 at_456 rfl rfl <| oi 460 X201 at_458 rfl rfl <| o_isub 461 (v := 1) X201 at_460 rfl (by decide) <| oS 463 (l' := #[ii p1, ii p2, ii p3, ii p4, ii p5, ii 2, rr b135, rr b167, ii 0, ii 1, rr xa1_202, ii 1, uu]) X201 at_461 rfl rfl <| oa 465 X201 at_463 rfl rfl <| mV 468 0 X201 q205 (rm_au6 G q205 q206 q207 q209) (u25 G) all0 at_465 rfl rfl rfl lr (by decide) all0 ?_
            rintro _ _ _ _ X213 rfl K213 _ _
            refine sk [.int 1] rfl <| oi 470 X213 at_468 rfl rfl <| oY 475 X213 at_470 (by decide) (teq (by decide)).1 <| oc 476 (v := 1) X213 at_475 rfl (by decide) <| oS 478 (l' := #[ii p1, ii p2, ii p3, ii p4, ii p5, ii 2, rr b135, rr b167, ii 0, ii 1, rr xa1_202, ii 1, ii 1]) X213 at_476 rfl rfl <| oi 480 X213 at_478 rfl rfl <| oc 481 (v := 1) X213 at_480 rfl (by decide) <| oN 484 X213 at_481 rfl (flt (by decide)).1 <| oi 486 X213 at_484 rfl rfl <| on 489 X213 at_486 rfl ((if0 _ _).trans (feq (by decide)).1) <| oa 491 X213 at_489 rfl rfl <| oc 492 (v := 0) X213 at_491 rfl (by decide) ?_
            have f214 := q205.keep K213
            have f215 := q206.k0 K213
            have f216 := q207.k0 K213
            have f217 := q209.k0 K213
            refine mV 495 0 X213 f214 (rm_au78 G f214 f215 f216 f217) (u29 G) all0 at_492 rfl rfl rfl lr (by decide) all0 ?_
            rintro _ _ _ _ X218 rfl K218 _ _
            refine sk [.int (((xi1_147.toInt8.toInt32) &&& (255 : Int32)).toUInt32.toUInt16.toUInt32.toInt32)] rfl <| oa 497 X218 at_495 rfl rfl <| oi 499 X218 at_497 rfl rfl <| oc 500 (v := 1) X218 at_499 rfl (by decide) <| o_iadd 501 (v := 2) X218 at_500 rfl (by decide) ?_
            have f219 := ((((f179.oth W180 (by omega)).k1 K187 (by omega)).k0 K201).k0 K213).k0 K218
            refine oC 502 (v := (.int xi1_147)) X218 f219 ⟨by decide, by decide⟩ rfl at_501 rfl <| oN 505 X218 at_502 rfl (teq (own_ch255 q148)).2 <| oc 506 (v := 1) X218 at_505 rfl (by decide) <| og 510 X218 at_506 (by decide) <| oS 512 (l' := #[ii p1, ii p2, ii p3, ii p4, ii p5, ii 2, rr b135, rr b167, ii 0, ii 1, rr xa1_202, ii 1, ii 1]) X218 at_510 rfl rfl <| oi 514 X218 at_512 rfl rfl <| oc 515 (v := 2) X218 at_514 rfl (by decide) <| oY 546 X218 at_515 (by decide) (tlt (by decide)).1 <| oi 548 X218 at_546 rfl rfl <| oc 549 (v := 3) X218 at_548 rfl (by decide) <| oY 580 X218 at_549 (by decide) (tlt (by decide)).1 <| oi 582 X218 at_580 rfl rfl ?_
            exact o_nret (y := (1 : Int32)) (t := .boolean) X218 at_582 rfl (by decide) (by simp) (by decide) (by decide) (fun _ CC => rfl)
          · show Go _ _ _ _ (State.setTop _ (mkF _ 426 #[ii p1, ii p2, ii p3, ii p4, ii p5, ii 2, rr b135, rr b167, ii 0, ii 2, uu, uu, uu] []))
            subst hj198_0
            have V220 := q193.as [.int 47, .int (xi1_140.toInt8.toInt32), .int 46] rfl
            refine oa 428 X187 at_426 rfl rfl <| mS 431 0 X187 (rm_au82 G q190 q191 q192 V220 (own_bne (by decide) q141 hj197_0) (by decide) (by decide) (by decide)) (u19 G) all0 at_428 rfl rfl rfl lr (by decide) all0 ?_
            rintro _ _ _ _ X221 ⟨xa1_222, _, _, rfl, q225, q226, q227, q228, _⟩ _ _ _
            refine sk [.ref xa1_222] rfl <| oU 433 (l' := #[ii p1, ii p2, ii p3, ii p4, ii p5, ii 2, rr b135, rr b167, ii 0, ii 2, rr xa1_222, uu, uu]) X221 at_431 rfl rfl rfl <| oi 435 X221 at_433 rfl rfl <| oy 449 X221 at_435 (by decide) ((if0 _ _).trans (flt (by decide)).2.1) <| oa 451 X221 at_449 rfl rfl <| ifnonnullYesJ 456 X221 at_451 (by decide) <| oi 458 X221 at_456 rfl rfl <| oi 460 X221 at_458 rfl rfl <| o_isub 461 (v := 0) X221 at_460 rfl (by decide) <| oS 463 (l' := #[ii p1, ii p2, ii p3, ii p4, ii p5, ii 2, rr b135, rr b167, ii 0, ii 2, rr xa1_222, ii 0, uu]) X221 at_461 rfl rfl <| oa 465 X221 at_463 rfl rfl <| mV 468 0 X221 q225 (rm_au18 G q225 q226 q227 q228) (u25 G) all0 at_465 rfl rfl rfl lr (by decide) all0 ?_
            rintro _ _ _ _ X230 rfl _ _ _
            refine sk [i0] rfl <| oi 470 X230 at_468 rfl rfl <| oY 475 X230 at_470 (by decide) (teq (by decide)).1 <| oc 476 (v := 1) X230 at_475 rfl (by decide) <| oS 478 (l' := #[ii p1, ii p2, ii p3, ii p4, ii p5, ii 2, rr b135, rr b167, ii 0, ii 2, rr xa1_222, ii 0, ii 1]) X230 at_476 rfl rfl <| oi 480 X230 at_478 rfl rfl <| oc 481 (v := 1) X230 at_480 rfl (by decide) <| oY 512 X230 at_481 (by decide) (tlt (by decide)).1 <| oi 514 X230 at_512 rfl rfl <| oc 515 (v := 2) X230 at_514 rfl (by decide) <| oY 546 X230 at_515 (by decide) (tlt (by decide)).1 <| oi 548 X230 at_546 rfl rfl ?_
            refine oc 549 (v := 3) X230 at_548 rfl (by decide) <| oY 580 X230 at_549 (by decide) (tlt (by decide)).1 <| oi 582 X230 at_580 rfl rfl ?_
            exact o_nret (y := (1 : Int32)) (t := .boolean) X230 at_582 rfl (by decide) (by simp) (by decide) (by decide) (fun _ CC => rfl)
        · intro J2
          refine oc 328 (v := (-1)) X187 at_327 rfl (by decide) <| oS 330 (l' := #[ii p1, ii p2, ii p3, ii p4, ii p5, ii 2, rr b135, rr b167, ii 0, ii (-1), uu, uu, uu]) X187 at_328 rfl rfl <| oi 332 X187 at_330 rfl rfl <| oc 333 (v := 1) X187 at_332 rfl (by decide) <| oN 336 X187 at_333 rfl (flt (by decide)).1 <| oi 338 X187 at_336 rfl rfl <| oc 339 (v := 1) X187 at_338 rfl (by decide) <| oN 342 X187 at_339 rfl (tlt (by decide)).2.1 <| oa 344 X187 at_342 rfl rfl <| oc 345 (v := 1) X187 at_344 rfl (by decide) ?_
          have f231 := (f179.oth W180 (by omega)).k1 K187 (by omega)
          refine oC 346 (v := (.int xi1_140)) X187 f231 ⟨by decide, by decide⟩ rfl at_345 rfl <| ob 348 (v := 46) X187 at_346 rfl (by decide) ?_
          by_cases hc232 : xi1_140 = (46 : Int32)
          · refine oN 351 X187 at_348 rfl (teq hc232).2 <| oc 352 (v := 1) X187 at_351 rfl (by decide) <| oS 354 (l' := #[ii p1, ii p2, ii p3, ii p4, ii p5, ii 2, rr b135, rr b167, ii 0, ii 1, uu, uu, uu]) X187 at_352 rfl rfl <| oi 356 X187 at_354 rfl rfl <| oc 357 (v := 2) X187 at_356 rfl (by decide) <| oN 360 X187 at_357 rfl (flt (by decide)).1 <| oi 362 X187 at_360 rfl rfl <| oc 363 (v := 2) X187 at_362 rfl (by decide) <| oN 366 X187 at_363 rfl (tlt (by decide)).2.1 <| oa 368 X187 at_366 rfl rfl <| oc 369 (v := 2) X187 at_368 rfl (by decide) <| oC 370 (v := (.int xi1_147)) X187 f231 ⟨by decide, by decide⟩ rfl at_369 rfl ?_
            refine ob 372 (v := 46) X187 at_370 rfl (by decide) ?_
            by_cases hc233 : xi1_147 = (46 : Int32)
            · refine oN 375 X187 at_372 rfl (teq hc233).2 <| oc 376 (v := 2) X187 at_375 rfl (by decide) <| oS 378 (l' := #[ii p1, ii p2, ii p3, ii p4, ii p5, ii 2, rr b135, rr b167, ii 0, ii 2, uu, uu, uu]) X187 at_376 rfl rfl <| oi 380 X187 at_378 rfl rfl <| oc 381 (v := 3) X187 at_380 rfl (by decide) <| oY 402 X187 at_381 (by decide) (tlt (by decide)).1 <| oi 404 X187 at_402 rfl rfl <| oc 405 (v := 4) X187 at_404 rfl (by decide) <| oY 426 X187 at_405 (by decide) (tlt (by decide)).1 ?_
              exact J2 2 (Or.inr (Or.inr (⟨rfl, hc233⟩)))
            · refine oY 378 X187 at_372 (by decide) (feq hc233).2 <| oi 380 X187 at_378 rfl rfl <| oc 381 (v := 3) X187 at_380 rfl (by decide) <| oY 402 X187 at_381 (by decide) (tlt (by decide)).1 <| oi 404 X187 at_402 rfl rfl <| oc 405 (v := 4) X187 at_404 rfl (by decide) <| oY 426 X187 at_405 (by decide) (tlt (by decide)).1 ?_
              exact J2 1 (Or.inr (Or.inl ⟨rfl, hc232, hc233⟩))
          · refine oY 354 X187 at_348 (by decide) (feq hc232).2 <| oi 356 X187 at_354 rfl rfl <| oc 357 (v := 2) X187 at_356 rfl (by decide) <| oN 360 X187 at_357 rfl (flt (by decide)).1 <| oi 362 X187 at_360 rfl rfl <| oc 363 (v := 2) X187 at_362 rfl (by decide) <| oN 366 X187 at_363 rfl (tlt (by decide)).2.1 <| oa 368 X187 at_366 rfl rfl <| oc 369 (v := 2) X187 at_368 rfl (by decide) <| oC 370 (v := (.int xi1_147)) X187 f231 ⟨by decide, by decide⟩ rfl at_369 rfl <| ob 372 (v := 46) X187 at_370 rfl (by decide) ?_
            by_cases hc234 : xi1_147 = (46 : Int32)
            · refine oN 375 X187 at_372 rfl (teq hc234).2 <| oc 376 (v := 2) X187 at_375 rfl (by decide) <| oS 378 (l' := #[ii p1, ii p2, ii p3, ii p4, ii p5, ii 2, rr b135, rr b167, ii 0, ii 2, uu, uu, uu]) X187 at_376 rfl rfl <| oi 380 X187 at_378 rfl rfl <| oc 381 (v := 3) X187 at_380 rfl (by decide) <| oY 402 X187 at_381 (by decide) (tlt (by decide)).1 <| oi 404 X187 at_402 rfl rfl <| oc 405 (v := 4) X187 at_404 rfl (by decide) <| oY 426 X187 at_405 (by decide) (tlt (by decide)).1 ?_
              exact J2 2 (Or.inr (Or.inr (⟨rfl, hc234⟩)))
            · refine oY 378 X187 at_372 (by decide) (feq hc234).2 <| oi 380 X187 at_378 rfl rfl <| oc 381 (v := 3) X187 at_380 rfl (by decide) <| oY 402 X187 at_381 (by decide) (tlt (by decide)).1 <| oi 404 X187 at_402 rfl rfl <| oc 405 (v := 4) X187 at_404 rfl (by decide) <| oY 426 X187 at_405 (by decide) (tlt (by decide)).1 ?_
              exact J2 (-1) (Or.inl ⟨rfl, hc232, hc234⟩)
      · show Go _ _ _ _ (State.setTop _ (mkF _ 327 #[ii p1, ii p2, ii p3, ii p4, ii p5, ii 2, rr b135, rr b167, ii 1, uu, uu, uu, uu] []))
        refine jn 426 (fun a => (a = (-1 : Int32) ∧ ¬ xi1_147 = (46 : Int32)) ∨ (a = (2 : Int32) ∧ xi1_147 = (46 : Int32))) (fun a => #[ii p1, ii p2, ii p3, ii p4, ii p5, ii 2, rr b135, rr b167, ii 1, ii a, uu, uu, uu]) ?_ ?_
        · rintro _ (⟨rfl, hj235_0⟩ | ⟨rfl, hj235_0⟩)
          · show Go _ _ _ _ (State.setTop _ (mkF _ 426 #[ii p1, ii p2, ii p3, ii p4, ii p5, ii 2, rr b135, rr b167, ii 1, ii (-1), uu, uu, uu] []))
            subst hj197_0
            have V236 := q193.as [.int 47, .int 47, .int (xi1_147.toInt8.toInt32)] rfl
            refine oa 428 X187 at_426 rfl rfl <| mS 431 0 X187 (rm_au91 G q190 q191 q192 V236 (own_bne (by decide) q148 hj235_0) (own_bne (by decide) q148 hj197_1) (by decide)) (u19 G) all0 at_428 rfl rfl rfl lr (by decide) all0 ?_
            rintro _ _ _ _ X237 rfl _ _ _
            refine sk [.null] rfl <| oU 433 (l' := #[ii p1, ii p2, ii p3, ii p4, ii p5, ii 2, rr b135, rr b167, ii 1, ii (-1), .val .null, uu, uu]) X237 at_431 rfl rfl rfl <| oi 435 X237 at_433 rfl rfl <| on 438 X237 at_435 rfl ((if0 _ _).trans (tlt (by decide)).2.1) <| o_aload 440 X237 at_438 rfl rfl rfl <| o_ifnonnullNo 443 X237 at_440 rfl <| oc 444 (v := 1) X237 at_443 rfl (by decide) <| og 448 X237 at_444 (by decide) ?_
            exact o_nret (y := (1 : Int32)) (t := .boolean) X237 at_448 rfl (by decide) (by simp) (by decide) (by decide) (fun _ CC => rfl)
          · show Go _ _ _ _ (State.setTop _ (mkF _ 426 #[ii p1, ii p2, ii p3, ii p4, ii p5, ii 2, rr b135, rr b167, ii 1, ii 2, uu, uu, uu] []))
            subst hj197_0
            subst hj235_0
            have V238 := q193.as [.int 47, .int 47, .int 46] rfl
            refine oa 428 X187 at_426 rfl rfl <| mS 431 0 X187 (rm_au92 G q190 q191 q192 V238 (by decide) (by decide) (by decide)) (u19 G) all0 at_428 rfl rfl rfl lr (by decide) all0 ?_
            rintro _ _ _ _ X239 ⟨xa1_240, _, _, rfl, q243, q244, q245, q246, _⟩ _ _ _
            refine sk [.ref xa1_240] rfl <| oU 433 (l' := #[ii p1, ii p2, ii p3, ii p4, ii p5, ii 2, rr b135, rr b167, ii 1, ii 2, rr xa1_240, uu, uu]) X239 at_431 rfl rfl rfl <| oi 435 X239 at_433 rfl rfl <| oy 449 X239 at_435 (by decide) ((if0 _ _).trans (flt (by decide)).2.1) <| oa 451 X239 at_449 rfl rfl <| ifnonnullYesJ 456 X239 at_451 (by decide) <| oi 458 X239 at_456 rfl rfl <| oi 460 X239 at_458 rfl rfl <| o_isub 461 (v := 0) X239 at_460 rfl (by decide) <| oS 463 (l' := #[ii p1, ii p2, ii p3, ii p4, ii p5, ii 2, rr b135, rr b167, ii 1, ii 2, rr xa1_240, ii 0, uu]) X239 at_461 rfl rfl <| oa 465 X239 at_463 rfl rfl <| mV 468 0 X239 q243 (rm_au18 G q243 q244 q245 q246) (u25 G) all0 at_465 rfl rfl rfl lr (by decide) all0 ?_
            rintro _ _ _ _ X248 rfl _ _ _
            refine sk [i0] rfl <| oi 470 X248 at_468 rfl rfl <| oY 475 X248 at_470 (by decide) (teq (by decide)).1 <| oc 476 (v := 1) X248 at_475 rfl (by decide) <| oS 478 (l' := #[ii p1, ii p2, ii p3, ii p4, ii p5, ii 2, rr b135, rr b167, ii 1, ii 2, rr xa1_240, ii 0, ii 1]) X248 at_476 rfl rfl <| oi 480 X248 at_478 rfl rfl <| oc 481 (v := 1) X248 at_480 rfl (by decide) <| oY 512 X248 at_481 (by decide) (tlt (by decide)).1 <| oi 514 X248 at_512 rfl rfl <| oc 515 (v := 2) X248 at_514 rfl (by decide) <| oY 546 X248 at_515 (by decide) (tlt (by decide)).1 <| oi 548 X248 at_546 rfl rfl ?_
            refine oc 549 (v := 3) X248 at_548 rfl (by decide) <| oY 580 X248 at_549 (by decide) (tlt (by decide)).1 <| oi 582 X248 at_580 rfl rfl ?_
            exact o_nret (y := (1 : Int32)) (t := .boolean) X248 at_582 rfl (by decide) (by simp) (by decide) (by decide) (fun _ CC => rfl)
        · intro J2
          refine oc 328 (v := (-1)) X187 at_327 rfl (by decide) <| oS 330 (l' := #[ii p1, ii p2, ii p3, ii p4, ii p5, ii 2, rr b135, rr b167, ii 1, ii (-1), uu, uu, uu]) X187 at_328 rfl rfl <| oi 332 X187 at_330 rfl rfl <| oc 333 (v := 1) X187 at_332 rfl (by decide) <| oN 336 X187 at_333 rfl (flt (by decide)).1 <| oi 338 X187 at_336 rfl rfl <| oc 339 (v := 1) X187 at_338 rfl (by decide) <| oY 354 X187 at_339 (by decide) (flt (by decide)).2.1 <| oi 356 X187 at_354 rfl rfl <| oc 357 (v := 2) X187 at_356 rfl (by decide) <| oN 360 X187 at_357 rfl (flt (by decide)).1 <| oi 362 X187 at_360 rfl rfl ?_
          refine oc 363 (v := 2) X187 at_362 rfl (by decide) <| oN 366 X187 at_363 rfl (tlt (by decide)).2.1 <| oa 368 X187 at_366 rfl rfl <| oc 369 (v := 2) X187 at_368 rfl (by decide) ?_
          have f249 := (f179.oth W180 (by omega)).k1 K187 (by omega)
          refine oC 370 (v := (.int xi1_147)) X187 f249 ⟨by decide, by decide⟩ rfl at_369 rfl <| ob 372 (v := 46) X187 at_370 rfl (by decide) ?_
          by_cases hc250 : xi1_147 = (46 : Int32)
          · refine oN 375 X187 at_372 rfl (teq hc250).2 <| oc 376 (v := 2) X187 at_375 rfl (by decide) <| oS 378 (l' := #[ii p1, ii p2, ii p3, ii p4, ii p5, ii 2, rr b135, rr b167, ii 1, ii 2, uu, uu, uu]) X187 at_376 rfl rfl <| oi 380 X187 at_378 rfl rfl <| oc 381 (v := 3) X187 at_380 rfl (by decide) <| oY 402 X187 at_381 (by decide) (tlt (by decide)).1 <| oi 404 X187 at_402 rfl rfl <| oc 405 (v := 4) X187 at_404 rfl (by decide) <| oY 426 X187 at_405 (by decide) (tlt (by decide)).1 ?_
            exact J2 2 (Or.inr (⟨rfl, hc250⟩))
          · refine oY 378 X187 at_372 (by decide) (feq hc250).2 <| oi 380 X187 at_378 rfl rfl <| oc 381 (v := 3) X187 at_380 rfl (by decide) <| oY 402 X187 at_381 (by decide) (tlt (by decide)).1 <| oi 404 X187 at_402 rfl rfl <| oc 405 (v := 4) X187 at_404 rfl (by decide) <| oY 426 X187 at_405 (by decide) (tlt (by decide)).1 ?_
            exact J2 (-1) (Or.inl ⟨rfl, hc250⟩)
      · show Go _ _ _ _ (State.setTop _ (mkF _ 327 #[ii p1, ii p2, ii p3, ii p4, ii p5, ii 2, rr b135, rr b167, ii 2, uu, uu, uu, uu] []))
        refine oc 328 (v := (-1)) X187 at_327 rfl (by decide) <| oS 330 (l' := #[ii p1, ii p2, ii p3, ii p4, ii p5, ii 2, rr b135, rr b167, ii 2, ii (-1), uu, uu, uu]) X187 at_328 rfl rfl <| oi 332 X187 at_330 rfl rfl <| oc 333 (v := 1) X187 at_332 rfl (by decide) <| oN 336 X187 at_333 rfl (flt (by decide)).1 <| oi 338 X187 at_336 rfl rfl <| oc 339 (v := 1) X187 at_338 rfl (by decide) <| oY 354 X187 at_339 (by decide) (flt (by decide)).2.1 <| oi 356 X187 at_354 rfl rfl <| oc 357 (v := 2) X187 at_356 rfl (by decide) <| oN 360 X187 at_357 rfl (flt (by decide)).1 <| oi 362 X187 at_360 rfl rfl ?_
        refine oc 363 (v := 2) X187 at_362 rfl (by decide) <| oY 378 X187 at_363 (by decide) (flt (by decide)).2.1 <| oi 380 X187 at_378 rfl rfl <| oc 381 (v := 3) X187 at_380 rfl (by decide) <| oY 402 X187 at_381 (by decide) (tlt (by decide)).1 <| oi 404 X187 at_402 rfl rfl <| oc 405 (v := 4) X187 at_404 rfl (by decide) <| oY 426 X187 at_405 (by decide) (tlt (by decide)).1 ?_
        subst hj197_0
        have V251 := q193.as [.int 47, .int (xi1_140.toInt8.toInt32), .int 47] rfl
        refine oa 428 X187 at_426 rfl rfl <| mS 431 0 X187 (rm_au98 G q190 q191 q192 V251 q194 (by decide)) (u19 G) all0 at_428 rfl rfl rfl lr (by decide) all0 ?_
        rintro _ _ _ _ X252 rfl _ _ _
        refine sk [.null] rfl <| oU 433 (l' := #[ii p1, ii p2, ii p3, ii p4, ii p5, ii 2, rr b135, rr b167, ii 2, ii (-1), .val .null, uu, uu]) X252 at_431 rfl rfl rfl <| oi 435 X252 at_433 rfl rfl <| on 438 X252 at_435 rfl ((if0 _ _).trans (tlt (by decide)).2.1) <| o_aload 440 X252 at_438 rfl rfl rfl <| o_ifnonnullNo 443 X252 at_440 rfl <| oc 444 (v := 1) X252 at_443 rfl (by decide) <| og 448 X252 at_444 (by decide) ?_
        exact o_nret (y := (1 : Int32)) (t := .boolean) X252 at_448 rfl (by decide) (by simp) (by decide) (by decide) (fun _ CC => rfl)
    · intro J1
      refine oc 253 (v := 0) X187 at_252 rfl (by decide) <| oS 255 (l' := #[ii p1, ii p2, ii p3, ii p4, ii p5, ii 2, rr b135, rr b167, ii 0, uu, uu, uu, uu]) X187 at_253 rfl rfl <| oi 257 X187 at_255 rfl rfl <| oc 258 (v := 1) X187 at_257 rfl (by decide) <| oN 261 X187 at_258 rfl (flt (by decide)).1 <| oa 263 X187 at_261 rfl rfl <| oc 264 (v := 1) X187 at_263 rfl (by decide) ?_
      have f253 := (f179.oth W180 (by omega)).k1 K187 (by omega)
      refine oC 265 (v := (.int xi1_140)) X187 f253 ⟨by decide, by decide⟩ rfl at_264 rfl <| ob 267 (v := 47) X187 at_265 rfl (by decide) ?_
      by_cases hc254 : xi1_140 = (47 : Int32)
      · refine oN 270 X187 at_267 rfl (teq hc254).2 <| oc 271 (v := 1) X187 at_270 rfl (by decide) <| oS 273 (l' := #[ii p1, ii p2, ii p3, ii p4, ii p5, ii 2, rr b135, rr b167, ii 1, uu, uu, uu, uu]) X187 at_271 rfl rfl <| oi 275 X187 at_273 rfl rfl <| oc 276 (v := 2) X187 at_275 rfl (by decide) <| oN 279 X187 at_276 rfl (flt (by decide)).1 <| oa 281 X187 at_279 rfl rfl <| oc 282 (v := 2) X187 at_281 rfl (by decide) <| oC 283 (v := (.int xi1_147)) X187 f253 ⟨by decide, by decide⟩ rfl at_282 rfl <| ob 285 (v := 47) X187 at_283 rfl (by decide) ?_
        by_cases hc255 : xi1_147 = (47 : Int32)
        · refine oN 288 X187 at_285 rfl (teq hc255).2 <| oc 289 (v := 2) X187 at_288 rfl (by decide) <| oS 291 (l' := #[ii p1, ii p2, ii p3, ii p4, ii p5, ii 2, rr b135, rr b167, ii 2, uu, uu, uu, uu]) X187 at_289 rfl rfl <| oi 293 X187 at_291 rfl rfl <| oc 294 (v := 3) X187 at_293 rfl (by decide) <| oY 309 X187 at_294 (by decide) (tlt (by decide)).1 <| oi 311 X187 at_309 rfl rfl <| oc 312 (v := 4) X187 at_311 rfl (by decide) <| oY 327 X187 at_312 (by decide) (tlt (by decide)).1 ?_
          exact J1 2 (Or.inr (Or.inr (⟨rfl, hc255⟩)))
        · refine oY 291 X187 at_285 (by decide) (feq hc255).2 <| oi 293 X187 at_291 rfl rfl <| oc 294 (v := 3) X187 at_293 rfl (by decide) <| oY 309 X187 at_294 (by decide) (tlt (by decide)).1 <| oi 311 X187 at_309 rfl rfl <| oc 312 (v := 4) X187 at_311 rfl (by decide) <| oY 327 X187 at_312 (by decide) (tlt (by decide)).1 ?_
          exact J1 1 (Or.inr (Or.inl ⟨rfl, hc254, hc255⟩))
      · refine oY 273 X187 at_267 (by decide) (feq hc254).2 <| oi 275 X187 at_273 rfl rfl <| oc 276 (v := 2) X187 at_275 rfl (by decide) <| oN 279 X187 at_276 rfl (flt (by decide)).1 <| oa 281 X187 at_279 rfl rfl <| oc 282 (v := 2) X187 at_281 rfl (by decide) <| oC 283 (v := (.int xi1_147)) X187 f253 ⟨by decide, by decide⟩ rfl at_282 rfl <| ob 285 (v := 47) X187 at_283 rfl (by decide) ?_
        by_cases hc256 : xi1_147 = (47 : Int32)
        · refine oN 288 X187 at_285 rfl (teq hc256).2 <| oc 289 (v := 2) X187 at_288 rfl (by decide) <| oS 291 (l' := #[ii p1, ii p2, ii p3, ii p4, ii p5, ii 2, rr b135, rr b167, ii 2, uu, uu, uu, uu]) X187 at_289 rfl rfl <| oi 293 X187 at_291 rfl rfl <| oc 294 (v := 3) X187 at_293 rfl (by decide) <| oY 309 X187 at_294 (by decide) (tlt (by decide)).1 <| oi 311 X187 at_309 rfl rfl <| oc 312 (v := 4) X187 at_311 rfl (by decide) <| oY 327 X187 at_312 (by decide) (tlt (by decide)).1 ?_
          exact J1 2 (Or.inr (Or.inr (⟨rfl, hc256⟩)))
        · refine oY 291 X187 at_285 (by decide) (feq hc256).2 <| oi 293 X187 at_291 rfl rfl <| oc 294 (v := 3) X187 at_293 rfl (by decide) <| oY 309 X187 at_294 (by decide) (tlt (by decide)).1 <| oi 311 X187 at_309 rfl rfl <| oc 312 (v := 4) X187 at_311 rfl (by decide) <| oY 327 X187 at_312 (by decide) (tlt (by decide)).1 ?_
          exact J1 0 (Or.inl ⟨rfl, hc254, hc256⟩)
  · refine o_irem 7 (v := 3) X0 at_6 rfl (by decide) hk1 <| oS 9 (l' := #[ii p1, ii p2, ii p3, ii p4, ii p5, ii 3, uu, uu, uu, uu, uu, uu, uu]) X0 at_7 rfl rfl <| oc 10 (v := 5) X0 at_9 rfl (by decide) <| nP (aty := .char) 12 5 X0 (w1 G) at_10 rfl (by decide) had_char ?_
    intro _ h257 b257 k257 X257 _ _ _ V257 A257 _ _
    have V258 : av0 Z h257 b257 k257 5 [i0, i0, i0, i0, i0] := V257.pad (pad_rep [] (.int (0 : Int32)) 5)
    refine oU 14 (l' := #[ii p1, ii p2, ii p3, ii p4, ii p5, ii 3, rr b257, uu, uu, uu, uu, uu, uu]) X257 at_12 rfl rfl rfl <| oa 16 X257 at_14 rfl rfl <| oc 17 (v := 0) X257 at_16 rfl (by decide) <| ob 19 (v := 47) X257 at_17 rfl (by decide) <| sC 20 0 47 X257 V258 (by decide) (lb rfl) (by decide) at_19 rfl (by omega) (Or.inr (by omega)) (sx X257 A257 nc0) ?_
    rintro _ _ X259 ⟨_, _, W259⟩ _ V259
    have := W259.size
    have V260 := V259.as [.int 47, i0, i0, i0, i0] rfl
    refine oa 22 X259 at_20 rfl rfl <| oc 23 (v := 1) X259 at_22 rfl (by decide) <| oI 24 X259 at_23 rfl rfl <| mS 27 2 X259 (rm_draw G ) (u0 G) all0 at_24 rfl rfl rfl lr (by decide) all0 ?_
    rintro _ _ _ _ X261 ⟨xi1_262, rfl, q263⟩ K261 _ _
    refine sk [.int xi1_262, .int 1, .ref b257] rfl ?_
    have f264 := V260.k0 K261
    have f266 := (A257.wr W259).keep K261
    refine sC 28 1 xi1_262 X261 f264 (by decide) (lb rfl) (own_narC q263) at_27 rfl (by omega) (Or.inr (by omega)) (sx X261 f266 nc0) ?_
    rintro _ _ X265 ⟨_, _, W265⟩ _ V265
    have := W265.size
    have V267 := V265.as [.int 47, .int xi1_262, i0, i0, i0] rfl
    refine oa 30 X265 at_28 rfl rfl <| oc 31 (v := 2) X265 at_30 rfl (by decide) <| oI 32 X265 at_31 rfl rfl <| mS 35 2 X265 (rm_draw G ) (u0 G) all0 at_32 rfl rfl rfl lr (by decide) all0 ?_
    rintro _ _ _ _ X268 ⟨xi1_269, rfl, q270⟩ K268 _ _
    refine sk [.int xi1_269, .int 2, .ref b257] rfl ?_
    have f271 := V267.k0 K268
    have f273 := (f266.wr W265).keep K268
    refine sC 36 2 xi1_269 X268 f271 (by decide) (lb rfl) (own_narC q270) at_35 rfl (by omega) (Or.inr (by omega)) (sx X268 f273 nc0) ?_
    rintro _ _ X272 ⟨_, _, W272⟩ _ V272
    have := W272.size
    have V274 := V272.as [.int 47, .int xi1_262, .int xi1_269, i0, i0] rfl
    refine oa 38 X272 at_36 rfl rfl <| oc 39 (v := 3) X272 at_38 rfl (by decide) <| oI 40 X272 at_39 rfl rfl <| mS 43 2 X272 (rm_draw G ) (u0 G) all0 at_40 rfl rfl rfl lr (by decide) all0 ?_
    rintro _ _ _ _ X275 ⟨xi1_276, rfl, q277⟩ K275 _ _
    refine sk [.int xi1_276, .int 3, .ref b257] rfl ?_
    have f278 := V274.k0 K275
    have f280 := (f273.wr W272).keep K275
    refine sC 44 3 xi1_276 X275 f278 (by decide) (lb rfl) (own_narC q277) at_43 rfl (by omega) (Or.inr (by omega)) (sx X275 f280 nc0) ?_
    rintro _ _ X279 ⟨_, _, W279⟩ _ V279
    have := W279.size
    have V281 := V279.as [.int 47, .int xi1_262, .int xi1_269, .int xi1_276, i0] rfl
    refine oa 46 X279 at_44 rfl rfl <| oc 47 (v := 4) X279 at_46 rfl (by decide) <| oI 48 X279 at_47 rfl rfl <| mS 51 2 X279 (rm_draw G ) (u0 G) all0 at_48 rfl rfl rfl lr (by decide) all0 ?_
    rintro _ _ _ _ X282 ⟨xi1_283, rfl, q284⟩ K282 _ _
    refine sk [.int xi1_283, .int 4, .ref b257] rfl ?_
    have f285 := V281.k0 K282
    have f287 := (f280.wr W279).keep K282
    refine sC 52 4 xi1_283 X282 f285 (by decide) (lb rfl) (own_narC q284) at_51 rfl (by omega) (Or.inr (by omega)) (sx X282 f287 nc0) ?_
    rintro _ _ X286 ⟨_, _, W286⟩ _ V286
    have := W286.size
    have V288 := V286.as [.int 47, .int xi1_262, .int xi1_269, .int xi1_276, .int xi1_283] rfl
    refine oi 54 X286 at_52 rfl rfl <| oy 79 X286 at_54 (by decide) ((if0 _ _).trans (feq (by decide)).2) <| oi 81 X286 at_79 rfl rfl <| oc 82 (v := 1) X286 at_81 rfl (by decide) <| oY 114 X286 at_82 (by decide) (feq (by decide)).2 <| oi 116 X286 at_114 rfl rfl <| oc 117 (v := 2) X286 at_116 rfl (by decide) <| oY 156 X286 at_117 (by decide) (feq (by decide)).2 <| oi 158 X286 at_156 rfl rfl <| oc 159 (v := 3) X286 at_158 rfl (by decide) <| oN 162 X286 at_159 rfl (teq (by decide)).2 <| o_new 165 X286 (w6 G) (w7 G) (w8 G) at_162 rfl (by decide) (by decide) ?_
    intro _ h289 b289 X289 _ _ E289 A289 D289 _ _ S289
    have f290 : fd0 Z h289 b289 (.int 0) := D289 (Or.inr (w32 G)) fd_0
    have f291 : fd1 Z h289 b289 .null := D289 (Or.inr (w34 G)) fd_1
    refine oD 166 X289 at_165 rfl rfl <| oc 167 (v := 4) X289 at_166 rfl (by decide) <| nP (aty := .char) 169 4 X289 (w1 G) at_167 rfl (by decide) had_char ?_
    intro _ h292 b292 k292 X292 _ _ E292 V292 A292 C292 _
    have V293 : av0 Z h292 b292 k292 4 [i0, i0, i0, i0] := V292.pad (pad_rep [] (.int (0 : Int32)) 4)
    refine oD 170 X292 at_169 rfl rfl <| oc 171 (v := 0) X292 at_170 rfl (by decide) <| oa 173 X292 at_171 rfl rfl <| oc 174 (v := 0) X292 at_173 rfl (by decide) ?_
    have f294 := (V288.ext E289).ext E292
    refine oC 175 (v := (.int 47)) X292 f294 ⟨by decide, by decide⟩ rfl at_174 rfl <| sC 176 0 47 X292 V293 (by decide) (lb rfl) (by decide) at_175 rfl (by omega) (Or.inr (by omega)) (sx X292 A292 nc0) ?_
    rintro _ _ X295 ⟨_, _, W295⟩ C295 V295
    have := W295.size
    have V296 := V295.as [.int 47, i0, i0, i0] rfl
    refine oD 177 X295 at_176 rfl rfl <| oc 178 (v := 1) X295 at_177 rfl (by decide) <| oa 180 X295 at_178 rfl rfl <| oc 181 (v := 1) X295 at_180 rfl (by decide) ?_
    have f297 := f294.oth W295 (by omega)
    refine oC 182 (v := (.int xi1_262)) X295 f297 ⟨by decide, by decide⟩ rfl at_181 rfl ?_
    have f299 := A292.wr W295
    refine sC 183 1 xi1_262 X295 V296 (by decide) (lb rfl) (own_narC q263) at_182 rfl (by omega) (Or.inr (by omega)) (sx X295 f299 nc0) ?_
    rintro _ _ X298 ⟨_, _, W298⟩ C298 V298
    have := W298.size
    have V300 := V298.as [.int 47, .int xi1_262, i0, i0] rfl
    refine oD 184 X298 at_183 rfl rfl <| oc 185 (v := 2) X298 at_184 rfl (by decide) <| oa 187 X298 at_185 rfl rfl <| oc 188 (v := 2) X298 at_187 rfl (by decide) ?_
    have f301 := f297.oth W298 (by omega)
    refine oC 189 (v := (.int xi1_269)) X298 f301 ⟨by decide, by decide⟩ rfl at_188 rfl ?_
    have f303 := f299.wr W298
    refine sC 190 2 xi1_269 X298 V300 (by decide) (lb rfl) (own_narC q270) at_189 rfl (by omega) (Or.inr (by omega)) (sx X298 f303 nc0) ?_
    rintro _ _ X302 ⟨_, _, W302⟩ C302 V302
    have := W302.size
    have V304 := V302.as [.int 47, .int xi1_262, .int xi1_269, i0] rfl
    refine oD 191 X302 at_190 rfl rfl <| oc 192 (v := 3) X302 at_191 rfl (by decide) <| oa 194 X302 at_192 rfl rfl <| oc 195 (v := 3) X302 at_194 rfl (by decide) ?_
    have f305 := f301.oth W302 (by omega)
    refine oC 196 (v := (.int xi1_276)) X302 f305 ⟨by decide, by decide⟩ rfl at_195 rfl ?_
    have f307 := f303.wr W302
    refine sC 197 3 xi1_276 X302 V304 (by decide) (lb rfl) (own_narC q277) at_196 rfl (by omega) (Or.inr (by omega)) (sx X302 f307 nc0) ?_
    rintro _ _ X306 ⟨_, _, W306⟩ C306 V306
    have := W306.size
    have V308 := V306.as [.int 47, .int xi1_262, .int xi1_269, .int xi1_276] rfl
    have f309 := ((((A289.ext E292).wr W295).wr W298).wr W302).wr W306
    have f310 := ((((f290.ext E292).oth W295 (by omega)).oth W298 (by omega)).oth W302 (by omega)).oth W306 (by omega)
    have f311 := ((((f291.ext E292).oth W295 (by omega)).oth W298 (by omega)).oth W302 (by omega)).oth W306 (by omega)
    have f312 := C306.safe (own_lt (by omega)) (C302.safe (own_lt (by omega)) (C298.safe (own_lt (by omega)) (C295.safe (own_lt (by omega)) (C292.safe (own_lt (by omega)) S289))))
    refine mP 200 1 X306 (rm_au103 G f309 f310 f311 V308 q263 q270 q277 (by omega)) (u5 G) (sS (by omega) f312 all0) at_197 rfl rfl rfl lr (by decide) (aR (by omega) all0) ?_
    rintro _ _ _ _ X313 ⟨_, _, rfl, q316, q317, q318, q319, q320, _, _⟩ K313 _ _
    refine sk [.ref b289] rfl <| oU 202 (l' := #[ii p1, ii p2, ii p3, ii p4, ii p5, ii 3, rr b257, rr b289, uu, uu, uu, uu, uu]) X313 at_200 rfl rfl rfl <| og 252 X313 at_202 (by decide) ?_
    refine jn 327 (fun a => (a = (0 : Int32) ∧ ¬ xi1_262 = (47 : Int32) ∧ ¬ xi1_269 = (47 : Int32) ∧ ¬ xi1_276 = (47 : Int32)) ∨ (a = (1 : Int32) ∧ xi1_262 = (47 : Int32) ∧ ¬ xi1_269 = (47 : Int32) ∧ ¬ xi1_276 = (47 : Int32)) ∨ (a = (2 : Int32) ∧ xi1_269 = (47 : Int32) ∧ ¬ xi1_276 = (47 : Int32)) ∨ (a = (3 : Int32) ∧ xi1_276 = (47 : Int32))) (fun a => #[ii p1, ii p2, ii p3, ii p4, ii p5, ii 3, rr b257, rr b289, ii a, uu, uu, uu, uu]) ?_ ?_
    · rintro _ (⟨rfl, hj323_0, hj323_1, hj323_2⟩ | ⟨rfl, hj323_0, hj323_1, hj323_2⟩ | ⟨rfl, hj323_0, hj323_1⟩ | ⟨rfl, hj323_0⟩)
      · show Go _ _ _ _ (State.setTop _ (mkF _ 327 #[ii p1, ii p2, ii p3, ii p4, ii p5, ii 3, rr b257, rr b289, ii 0, uu, uu, uu, uu] []))
        refine jn 426 (fun a => (a = (-1 : Int32) ∧ ¬ xi1_262 = (46 : Int32) ∧ ¬ xi1_269 = (46 : Int32) ∧ ¬ xi1_276 = (46 : Int32)) ∨ (a = (1 : Int32) ∧ xi1_262 = (46 : Int32) ∧ ¬ xi1_269 = (46 : Int32) ∧ ¬ xi1_276 = (46 : Int32)) ∨ (a = (2 : Int32) ∧ xi1_269 = (46 : Int32) ∧ ¬ xi1_276 = (46 : Int32)) ∨ (a = (3 : Int32) ∧ xi1_276 = (46 : Int32))) (fun a => #[ii p1, ii p2, ii p3, ii p4, ii p5, ii 3, rr b257, rr b289, ii 0, ii a, uu, uu, uu]) ?_ ?_
        · rintro _ (⟨rfl, hj324_0, hj324_1, hj324_2⟩ | ⟨rfl, hj324_0, hj324_1, hj324_2⟩ | ⟨rfl, hj324_0, hj324_1⟩ | ⟨rfl, hj324_0⟩)
          · show Go _ _ _ _ (State.setTop _ (mkF _ 426 #[ii p1, ii p2, ii p3, ii p4, ii p5, ii 3, rr b257, rr b289, ii 0, ii (-1), uu, uu, uu] []))
            refine oa 428 X313 at_426 rfl rfl <| mS 431 0 X313 (rm_au116 G q316 q317 q318 q319 (own_bne (by decide) q263 hj324_0) (own_bne (by decide) q263 hj323_0) (own_bne (by decide) q270 hj324_1) (own_bne (by decide) q270 hj323_1) (own_bne (by decide) q277 hj324_2) (own_bne (by decide) q277 hj323_2) (by decide)) (u19 G) all0 at_428 rfl rfl rfl lr (by decide) all0 ?_
            rintro _ _ _ _ X325 rfl _ _ _
            refine sk [.null] rfl <| oU 433 (l' := #[ii p1, ii p2, ii p3, ii p4, ii p5, ii 3, rr b257, rr b289, ii 0, ii (-1), .val .null, uu, uu]) X325 at_431 rfl rfl rfl <| oi 435 X325 at_433 rfl rfl <| on 438 X325 at_435 rfl ((if0 _ _).trans (tlt (by decide)).2.1) <| o_aload 440 X325 at_438 rfl rfl rfl <| o_ifnonnullNo 443 X325 at_440 rfl <| oc 444 (v := 1) X325 at_443 rfl (by decide) <| og 448 X325 at_444 (by decide) ?_
            exact o_nret (y := (1 : Int32)) (t := .boolean) X325 at_448 rfl (by decide) (by simp) (by decide) (by decide) (fun _ CC => rfl)
          · show Go _ _ _ _ (State.setTop _ (mkF _ 426 #[ii p1, ii p2, ii p3, ii p4, ii p5, ii 3, rr b257, rr b289, ii 0, ii 1, uu, uu, uu] []))
            subst hj324_0
            have V326 := q319.as [.int 47, .int 46, .int (xi1_269.toInt8.toInt32), .int (xi1_276.toInt8.toInt32)] rfl
            refine oa 428 X313 at_426 rfl rfl <| mS 431 0 X313 (rm_au120 G q316 q317 q318 V326 (own_bne (by decide) q270 hj324_1) (own_bne (by decide) q270 hj323_1) (own_bne (by decide) q277 hj324_2) (own_bne (by decide) q277 hj323_2) (by decide) (by decide) (by decide)) (u19 G) all0 at_428 rfl rfl rfl lr (by decide) all0 ?_
            rintro _ _ _ _ X327 ⟨xa1_328, _, _, rfl, q331, q332, q333, _, q335, _, _, _⟩ K327 _ _
            refine sk [.ref xa1_328] rfl <| oU 433 (l' := #[ii p1, ii p2, ii p3, ii p4, ii p5, ii 3, rr b257, rr b289, ii 0, ii 1, rr xa1_328, uu, uu]) X327 at_431 rfl rfl rfl <| oi 435 X327 at_433 rfl rfl <| oy 449 X327 at_435 (by decide) ((if0 _ _).trans (flt (by decide)).2.1) <| oa 451 X327 at_449 rfl rfl <| ifnonnullYesJ 456 X327 at_451 (by decide) <| oi 458 X327 at_456 rfl rfl <| oi 460 X327 at_458 rfl rfl <| o_isub 461 (v := 2) X327 at_460 rfl (by decide) <| oS 463 (l' := #[ii p1, ii p2, ii p3, ii p4, ii p5, ii 3, rr b257, rr b289, ii 0, ii 1, rr xa1_328, ii 2, uu]) X327 at_461 rfl rfl <| oa 465 X327 at_463 rfl rfl <| mV 468 0 X327 q331 (rm_au28 G q331 q332 q333 q335) (u25 G) all0 at_465 rfl rfl rfl lr (by decide) all0 ?_
            rintro _ _ _ _ X339 rfl K339 _ _
            refine sk [.int 2] rfl <| oi 470 X339 at_468 rfl rfl <| oY 475 X339 at_470 (by decide) (teq (by decide)).1 <| oc 476 (v := 1) X339 at_475 rfl (by decide) <| oS 478 (l' := #[ii p1, ii p2, ii p3, ii p4, ii p5, ii 3, rr b257, rr b289, ii 0, ii 1, rr xa1_328, ii 2, ii 1]) X339 at_476 rfl rfl <| oi 480 X339 at_478 rfl rfl <| oc 481 (v := 1) X339 at_480 rfl (by decide) <| oN 484 X339 at_481 rfl (flt (by decide)).1 <| oi 486 X339 at_484 rfl rfl <| on 489 X339 at_486 rfl ((if0 _ _).trans (feq (by decide)).1) <| oa 491 X339 at_489 rfl rfl <| oc 492 (v := 0) X339 at_491 rfl (by decide) ?_
            have f340 := q331.keep K339
            have f341 := q332.k0 K339
            have f342 := q333.k0 K339
            have f343 := q335.k0 K339
            refine mV 495 0 X339 f340 (rm_au122 G f340 f341 f342 f343) (u29 G) all0 at_492 rfl rfl rfl lr (by decide) all0 ?_
            rintro _ _ _ _ X344 rfl K344 _ _
            refine sk [.int (((xi1_269.toInt8.toInt32) &&& (255 : Int32)).toUInt32.toUInt16.toUInt32.toInt32)] rfl <| oa 497 X344 at_495 rfl rfl <| oi 499 X344 at_497 rfl rfl <| oc 500 (v := 1) X344 at_499 rfl (by decide) <| o_iadd 501 (v := 2) X344 at_500 rfl (by decide) ?_
            have f345 := ((((f305.oth W306 (by omega)).k1 K313 (by omega)).k0 K327).k0 K339).k0 K344
            refine oC 502 (v := (.int xi1_269)) X344 f345 ⟨by decide, by decide⟩ rfl at_501 rfl <| oN 505 X344 at_502 rfl (teq (own_ch255 q270)).2 <| oc 506 (v := 1) X344 at_505 rfl (by decide) <| og 510 X344 at_506 (by decide) <| oS 512 (l' := #[ii p1, ii p2, ii p3, ii p4, ii p5, ii 3, rr b257, rr b289, ii 0, ii 1, rr xa1_328, ii 2, ii 1]) X344 at_510 rfl rfl <| oi 514 X344 at_512 rfl rfl <| oc 515 (v := 2) X344 at_514 rfl (by decide) <| oN 518 X344 at_515 rfl (flt (by decide)).1 <| oi 520 X344 at_518 rfl rfl <| on 523 X344 at_520 rfl ((if0 _ _).trans (feq (by decide)).1) <| oa 525 X344 at_523 rfl rfl <| oc 526 (v := 1) X344 at_525 rfl (by decide) ?_
            have f346 := f340.keep K344
            have f347 := f341.k0 K344
            have f348 := f342.k0 K344
            have f349 := f343.k0 K344
            refine mV 529 0 X344 f346 (rm_au124 G f346 f347 f348 f349) (u29 G) all0 at_526 rfl rfl rfl lr (by decide) all0 ?_
            rintro _ _ _ _ X350 rfl K350 _ _
            refine sk [.int (((xi1_276.toInt8.toInt32) &&& (255 : Int32)).toUInt32.toUInt16.toUInt32.toInt32)] rfl <| oa 531 X350 at_529 rfl rfl <| oi 533 X350 at_531 rfl rfl <| oc 534 (v := 2) X350 at_533 rfl (by decide) <| o_iadd 535 (v := 3) X350 at_534 rfl (by decide) ?_
            have f351 := f345.k0 K350
            refine oC 536 (v := (.int xi1_276)) X350 f351 ⟨by decide, by decide⟩ rfl at_535 rfl <| oN 539 X350 at_536 rfl (teq (own_ch255 q277)).2 <| oc 540 (v := 1) X350 at_539 rfl (by decide) <| og 544 X350 at_540 (by decide) <| oS 546 (l' := #[ii p1, ii p2, ii p3, ii p4, ii p5, ii 3, rr b257, rr b289, ii 0, ii 1, rr xa1_328, ii 2, ii 1]) X350 at_544 rfl rfl <| oi 548 X350 at_546 rfl rfl <| oc 549 (v := 3) X350 at_548 rfl (by decide) <| oY 580 X350 at_549 (by decide) (tlt (by decide)).1 <| oi 582 X350 at_580 rfl rfl ?_
            exact o_nret (y := (1 : Int32)) (t := .boolean) X350 at_582 rfl (by decide) (by simp) (by decide) (by decide) (fun _ CC => rfl)
          · show Go _ _ _ _ (State.setTop _ (mkF _ 426 #[ii p1, ii p2, ii p3, ii p4, ii p5, ii 3, rr b257, rr b289, ii 0, ii 2, uu, uu, uu] []))
            subst hj324_0
            have V352 := q319.as [.int 47, .int (xi1_262.toInt8.toInt32), .int 46, .int (xi1_276.toInt8.toInt32)] rfl
            refine oa 428 X313 at_426 rfl rfl <| mS 431 0 X313 (rm_au128 G q316 q317 q318 V352 (own_bne (by decide) q263 hj323_0) (own_bne (by decide) q277 hj324_1) (own_bne (by decide) q277 hj323_2) (by decide) (by decide) (by decide)) (u19 G) all0 at_428 rfl rfl rfl lr (by decide) all0 ?_
            rintro _ _ _ _ X353 ⟨xa1_354, _, _, rfl, q357, q358, q359, _, q361, _, _, _⟩ K353 _ _
            refine sk [.ref xa1_354] rfl <| oU 433 (l' := #[ii p1, ii p2, ii p3, ii p4, ii p5, ii 3, rr b257, rr b289, ii 0, ii 2, rr xa1_354, uu, uu]) X353 at_431 rfl rfl rfl <| oi 435 X353 at_433 rfl rfl <| oy 449 X353 at_435 (by decide) ((if0 _ _).trans (flt (by decide)).2.1) <| oa 451 X353 at_449 rfl rfl <| ifnonnullYesJ 456 X353 at_451 (by decide) <| oi 458 X353 at_456 rfl rfl <| oi 460 X353 at_458 rfl rfl <| o_isub 461 (v := 1) X353 at_460 rfl (by decide) <| oS 463 (l' := #[ii p1, ii p2, ii p3, ii p4, ii p5, ii 3, rr b257, rr b289, ii 0, ii 2, rr xa1_354, ii 1, uu]) X353 at_461 rfl rfl <| oa 465 X353 at_463 rfl rfl <| mV 468 0 X353 q357 (rm_au6 G q357 q358 q359 q361) (u25 G) all0 at_465 rfl rfl rfl lr (by decide) all0 ?_
            rintro _ _ _ _ X365 rfl K365 _ _
            refine sk [.int 1] rfl <| oi 470 X365 at_468 rfl rfl <| oY 475 X365 at_470 (by decide) (teq (by decide)).1 <| oc 476 (v := 1) X365 at_475 rfl (by decide) <| oS 478 (l' := #[ii p1, ii p2, ii p3, ii p4, ii p5, ii 3, rr b257, rr b289, ii 0, ii 2, rr xa1_354, ii 1, ii 1]) X365 at_476 rfl rfl <| oi 480 X365 at_478 rfl rfl <| oc 481 (v := 1) X365 at_480 rfl (by decide) <| oN 484 X365 at_481 rfl (flt (by decide)).1 <| oi 486 X365 at_484 rfl rfl <| on 489 X365 at_486 rfl ((if0 _ _).trans (feq (by decide)).1) <| oa 491 X365 at_489 rfl rfl <| oc 492 (v := 0) X365 at_491 rfl (by decide) ?_
            have f366 := q357.keep K365
            have f367 := q358.k0 K365
            have f368 := q359.k0 K365
            have f369 := q361.k0 K365
            refine mV 495 0 X365 f366 (rm_au78 G f366 f367 f368 f369) (u29 G) all0 at_492 rfl rfl rfl lr (by decide) all0 ?_
            rintro _ _ _ _ X370 rfl K370 _ _
            refine sk [.int (((xi1_276.toInt8.toInt32) &&& (255 : Int32)).toUInt32.toUInt16.toUInt32.toInt32)] rfl <| oa 497 X370 at_495 rfl rfl <| oi 499 X370 at_497 rfl rfl <| oc 500 (v := 1) X370 at_499 rfl (by decide) <| o_iadd 501 (v := 3) X370 at_500 rfl (by decide) ?_
            have f371 := ((((f305.oth W306 (by omega)).k1 K313 (by omega)).k0 K353).k0 K365).k0 K370
            refine oC 502 (v := (.int xi1_276)) X370 f371 ⟨by decide, by decide⟩ rfl at_501 rfl <| oN 505 X370 at_502 rfl (teq (own_ch255 q277)).2 <| oc 506 (v := 1) X370 at_505 rfl (by decide) <| og 510 X370 at_506 (by decide) <| oS 512 (l' := #[ii p1, ii p2, ii p3, ii p4, ii p5, ii 3, rr b257, rr b289, ii 0, ii 2, rr xa1_354, ii 1, ii 1]) X370 at_510 rfl rfl <| oi 514 X370 at_512 rfl rfl <| oc 515 (v := 2) X370 at_514 rfl (by decide) <| oY 546 X370 at_515 (by decide) (tlt (by decide)).1 <| oi 548 X370 at_546 rfl rfl <| oc 549 (v := 3) X370 at_548 rfl (by decide) <| oY 580 X370 at_549 (by decide) (tlt (by decide)).1 <| oi 582 X370 at_580 rfl rfl ?_
            exact o_nret (y := (1 : Int32)) (t := .boolean) X370 at_582 rfl (by decide) (by simp) (by decide) (by decide) (fun _ CC => rfl)
          · show Go _ _ _ _ (State.setTop _ (mkF _ 426 #[ii p1, ii p2, ii p3, ii p4, ii p5, ii 3, rr b257, rr b289, ii 0, ii 3, uu, uu, uu] []))
            subst hj324_0
            have V372 := q319.as [.int 47, .int (xi1_262.toInt8.toInt32), .int (xi1_269.toInt8.toInt32), .int 46] rfl
            refine oa 428 X313 at_426 rfl rfl <| mS 431 0 X313 (rm_au132 G q316 q317 q318 V372 (own_bne (by decide) q263 hj323_0) (own_bne (by decide) q270 hj323_1) (by decide) (by decide) (by decide)) (u19 G) all0 at_428 rfl rfl rfl lr (by decide) all0 ?_
            rintro _ _ _ _ X373 ⟨xa1_374, _, _, rfl, q377, q378, q379, q380, _⟩ _ _ _
            refine sk [.ref xa1_374] rfl <| oU 433 (l' := #[ii p1, ii p2, ii p3, ii p4, ii p5, ii 3, rr b257, rr b289, ii 0, ii 3, rr xa1_374, uu, uu]) X373 at_431 rfl rfl rfl <| oi 435 X373 at_433 rfl rfl <| oy 449 X373 at_435 (by decide) ((if0 _ _).trans (flt (by decide)).2.1) <| oa 451 X373 at_449 rfl rfl <| ifnonnullYesJ 456 X373 at_451 (by decide) <| oi 458 X373 at_456 rfl rfl <| oi 460 X373 at_458 rfl rfl <| o_isub 461 (v := 0) X373 at_460 rfl (by decide) <| oS 463 (l' := #[ii p1, ii p2, ii p3, ii p4, ii p5, ii 3, rr b257, rr b289, ii 0, ii 3, rr xa1_374, ii 0, uu]) X373 at_461 rfl rfl <| oa 465 X373 at_463 rfl rfl <| mV 468 0 X373 q377 (rm_au18 G q377 q378 q379 q380) (u25 G) all0 at_465 rfl rfl rfl lr (by decide) all0 ?_
            rintro _ _ _ _ X382 rfl _ _ _
            refine sk [i0] rfl <| oi 470 X382 at_468 rfl rfl <| oY 475 X382 at_470 (by decide) (teq (by decide)).1 <| oc 476 (v := 1) X382 at_475 rfl (by decide) <| oS 478 (l' := #[ii p1, ii p2, ii p3, ii p4, ii p5, ii 3, rr b257, rr b289, ii 0, ii 3, rr xa1_374, ii 0, ii 1]) X382 at_476 rfl rfl <| oi 480 X382 at_478 rfl rfl <| oc 481 (v := 1) X382 at_480 rfl (by decide) <| oY 512 X382 at_481 (by decide) (tlt (by decide)).1 <| oi 514 X382 at_512 rfl rfl <| oc 515 (v := 2) X382 at_514 rfl (by decide) <| oY 546 X382 at_515 (by decide) (tlt (by decide)).1 <| oi 548 X382 at_546 rfl rfl ?_
            refine oc 549 (v := 3) X382 at_548 rfl (by decide) <| oY 580 X382 at_549 (by decide) (tlt (by decide)).1 <| oi 582 X382 at_580 rfl rfl ?_
            exact o_nret (y := (1 : Int32)) (t := .boolean) X382 at_582 rfl (by decide) (by simp) (by decide) (by decide) (fun _ CC => rfl)
        · intro J2
          refine oc 328 (v := (-1)) X313 at_327 rfl (by decide) <| oS 330 (l' := #[ii p1, ii p2, ii p3, ii p4, ii p5, ii 3, rr b257, rr b289, ii 0, ii (-1), uu, uu, uu]) X313 at_328 rfl rfl <| oi 332 X313 at_330 rfl rfl <| oc 333 (v := 1) X313 at_332 rfl (by decide) <| oN 336 X313 at_333 rfl (flt (by decide)).1 <| oi 338 X313 at_336 rfl rfl <| oc 339 (v := 1) X313 at_338 rfl (by decide) <| oN 342 X313 at_339 rfl (tlt (by decide)).2.1 <| oa 344 X313 at_342 rfl rfl <| oc 345 (v := 1) X313 at_344 rfl (by decide) ?_
          have f383 := (f305.oth W306 (by omega)).k1 K313 (by omega)
          refine oC 346 (v := (.int xi1_262)) X313 f383 ⟨by decide, by decide⟩ rfl at_345 rfl <| ob 348 (v := 46) X313 at_346 rfl (by decide) ?_
          by_cases hc384 : xi1_262 = (46 : Int32)
          · refine oN 351 X313 at_348 rfl (teq hc384).2 <| oc 352 (v := 1) X313 at_351 rfl (by decide) <| oS 354 (l' := #[ii p1, ii p2, ii p3, ii p4, ii p5, ii 3, rr b257, rr b289, ii 0, ii 1, uu, uu, uu]) X313 at_352 rfl rfl <| oi 356 X313 at_354 rfl rfl <| oc 357 (v := 2) X313 at_356 rfl (by decide) <| oN 360 X313 at_357 rfl (flt (by decide)).1 <| oi 362 X313 at_360 rfl rfl <| oc 363 (v := 2) X313 at_362 rfl (by decide) <| oN 366 X313 at_363 rfl (tlt (by decide)).2.1 <| oa 368 X313 at_366 rfl rfl <| oc 369 (v := 2) X313 at_368 rfl (by decide) <| oC 370 (v := (.int xi1_269)) X313 f383 ⟨by decide, by decide⟩ rfl at_369 rfl ?_
            refine ob 372 (v := 46) X313 at_370 rfl (by decide) ?_
            by_cases hc385 : xi1_269 = (46 : Int32)
            · refine oN 375 X313 at_372 rfl (teq hc385).2 <| oc 376 (v := 2) X313 at_375 rfl (by decide) <| oS 378 (l' := #[ii p1, ii p2, ii p3, ii p4, ii p5, ii 3, rr b257, rr b289, ii 0, ii 2, uu, uu, uu]) X313 at_376 rfl rfl <| oi 380 X313 at_378 rfl rfl <| oc 381 (v := 3) X313 at_380 rfl (by decide) <| oN 384 X313 at_381 rfl (flt (by decide)).1 <| oi 386 X313 at_384 rfl rfl <| oc 387 (v := 3) X313 at_386 rfl (by decide) <| oN 390 X313 at_387 rfl (tlt (by decide)).2.1 <| oa 392 X313 at_390 rfl rfl <| oc 393 (v := 3) X313 at_392 rfl (by decide) <| oC 394 (v := (.int xi1_276)) X313 f383 ⟨by decide, by decide⟩ rfl at_393 rfl ?_
              refine ob 396 (v := 46) X313 at_394 rfl (by decide) ?_
              by_cases hc386 : xi1_276 = (46 : Int32)
              · refine oN 399 X313 at_396 rfl (teq hc386).2 <| oc 400 (v := 3) X313 at_399 rfl (by decide) <| oS 402 (l' := #[ii p1, ii p2, ii p3, ii p4, ii p5, ii 3, rr b257, rr b289, ii 0, ii 3, uu, uu, uu]) X313 at_400 rfl rfl <| oi 404 X313 at_402 rfl rfl <| oc 405 (v := 4) X313 at_404 rfl (by decide) <| oY 426 X313 at_405 (by decide) (tlt (by decide)).1 ?_
                exact J2 3 (Or.inr (Or.inr (Or.inr (⟨rfl, hc386⟩))))
              · refine oY 402 X313 at_396 (by decide) (feq hc386).2 <| oi 404 X313 at_402 rfl rfl <| oc 405 (v := 4) X313 at_404 rfl (by decide) <| oY 426 X313 at_405 (by decide) (tlt (by decide)).1 ?_
                exact J2 2 (Or.inr (Or.inr (Or.inl ⟨rfl, hc385, hc386⟩)))
            · refine oY 378 X313 at_372 (by decide) (feq hc385).2 <| oi 380 X313 at_378 rfl rfl <| oc 381 (v := 3) X313 at_380 rfl (by decide) <| oN 384 X313 at_381 rfl (flt (by decide)).1 <| oi 386 X313 at_384 rfl rfl <| oc 387 (v := 3) X313 at_386 rfl (by decide) <| oN 390 X313 at_387 rfl (tlt (by decide)).2.1 <| oa 392 X313 at_390 rfl rfl <| oc 393 (v := 3) X313 at_392 rfl (by decide) <| oC 394 (v := (.int xi1_276)) X313 f383 ⟨by decide, by decide⟩ rfl at_393 rfl <| ob 396 (v := 46) X313 at_394 rfl (by decide) ?_
              by_cases hc387 : xi1_276 = (46 : Int32)
              · refine oN 399 X313 at_396 rfl (teq hc387).2 <| oc 400 (v := 3) X313 at_399 rfl (by decide) <| oS 402 (l' := #[ii p1, ii p2, ii p3, ii p4, ii p5, ii 3, rr b257, rr b289, ii 0, ii 3, uu, uu, uu]) X313 at_400 rfl rfl <| oi 404 X313 at_402 rfl rfl <| oc 405 (v := 4) X313 at_404 rfl (by decide) <| oY 426 X313 at_405 (by decide) (tlt (by decide)).1 ?_
                exact J2 3 (Or.inr (Or.inr (Or.inr (⟨rfl, hc387⟩))))
              · refine oY 402 X313 at_396 (by decide) (feq hc387).2 <| oi 404 X313 at_402 rfl rfl <| oc 405 (v := 4) X313 at_404 rfl (by decide) <| oY 426 X313 at_405 (by decide) (tlt (by decide)).1 ?_
                exact J2 1 (Or.inr (Or.inl ⟨rfl, hc384, hc385, hc387⟩))
          · refine oY 354 X313 at_348 (by decide) (feq hc384).2 <| oi 356 X313 at_354 rfl rfl <| oc 357 (v := 2) X313 at_356 rfl (by decide) <| oN 360 X313 at_357 rfl (flt (by decide)).1 <| oi 362 X313 at_360 rfl rfl <| oc 363 (v := 2) X313 at_362 rfl (by decide) <| oN 366 X313 at_363 rfl (tlt (by decide)).2.1 <| oa 368 X313 at_366 rfl rfl <| oc 369 (v := 2) X313 at_368 rfl (by decide) <| oC 370 (v := (.int xi1_269)) X313 f383 ⟨by decide, by decide⟩ rfl at_369 rfl <| ob 372 (v := 46) X313 at_370 rfl (by decide) ?_
            by_cases hc388 : xi1_269 = (46 : Int32)
            · refine oN 375 X313 at_372 rfl (teq hc388).2 <| oc 376 (v := 2) X313 at_375 rfl (by decide) <| oS 378 (l' := #[ii p1, ii p2, ii p3, ii p4, ii p5, ii 3, rr b257, rr b289, ii 0, ii 2, uu, uu, uu]) X313 at_376 rfl rfl <| oi 380 X313 at_378 rfl rfl <| oc 381 (v := 3) X313 at_380 rfl (by decide) <| oN 384 X313 at_381 rfl (flt (by decide)).1 <| oi 386 X313 at_384 rfl rfl <| oc 387 (v := 3) X313 at_386 rfl (by decide) <| oN 390 X313 at_387 rfl (tlt (by decide)).2.1 <| oa 392 X313 at_390 rfl rfl <| oc 393 (v := 3) X313 at_392 rfl (by decide) <| oC 394 (v := (.int xi1_276)) X313 f383 ⟨by decide, by decide⟩ rfl at_393 rfl ?_
              refine ob 396 (v := 46) X313 at_394 rfl (by decide) ?_
              by_cases hc389 : xi1_276 = (46 : Int32)
              · refine oN 399 X313 at_396 rfl (teq hc389).2 <| oc 400 (v := 3) X313 at_399 rfl (by decide) <| oS 402 (l' := #[ii p1, ii p2, ii p3, ii p4, ii p5, ii 3, rr b257, rr b289, ii 0, ii 3, uu, uu, uu]) X313 at_400 rfl rfl <| oi 404 X313 at_402 rfl rfl <| oc 405 (v := 4) X313 at_404 rfl (by decide) <| oY 426 X313 at_405 (by decide) (tlt (by decide)).1 ?_
                exact J2 3 (Or.inr (Or.inr (Or.inr (⟨rfl, hc389⟩))))
              · refine oY 402 X313 at_396 (by decide) (feq hc389).2 <| oi 404 X313 at_402 rfl rfl <| oc 405 (v := 4) X313 at_404 rfl (by decide) <| oY 426 X313 at_405 (by decide) (tlt (by decide)).1 ?_
                exact J2 2 (Or.inr (Or.inr (Or.inl ⟨rfl, hc388, hc389⟩)))
            · refine oY 378 X313 at_372 (by decide) (feq hc388).2 <| oi 380 X313 at_378 rfl rfl <| oc 381 (v := 3) X313 at_380 rfl (by decide) <| oN 384 X313 at_381 rfl (flt (by decide)).1 <| oi 386 X313 at_384 rfl rfl <| oc 387 (v := 3) X313 at_386 rfl (by decide) <| oN 390 X313 at_387 rfl (tlt (by decide)).2.1 <| oa 392 X313 at_390 rfl rfl <| oc 393 (v := 3) X313 at_392 rfl (by decide) <| oC 394 (v := (.int xi1_276)) X313 f383 ⟨by decide, by decide⟩ rfl at_393 rfl <| ob 396 (v := 46) X313 at_394 rfl (by decide) ?_
              by_cases hc390 : xi1_276 = (46 : Int32)
              · refine oN 399 X313 at_396 rfl (teq hc390).2 <| oc 400 (v := 3) X313 at_399 rfl (by decide) <| oS 402 (l' := #[ii p1, ii p2, ii p3, ii p4, ii p5, ii 3, rr b257, rr b289, ii 0, ii 3, uu, uu, uu]) X313 at_400 rfl rfl <| oi 404 X313 at_402 rfl rfl <| oc 405 (v := 4) X313 at_404 rfl (by decide) <| oY 426 X313 at_405 (by decide) (tlt (by decide)).1 ?_
                exact J2 3 (Or.inr (Or.inr (Or.inr (⟨rfl, hc390⟩))))
              · refine oY 402 X313 at_396 (by decide) (feq hc390).2 <| oi 404 X313 at_402 rfl rfl <| oc 405 (v := 4) X313 at_404 rfl (by decide) <| oY 426 X313 at_405 (by decide) (tlt (by decide)).1 ?_
                exact J2 (-1) (Or.inl ⟨rfl, hc384, hc388, hc390⟩)
      · show Go _ _ _ _ (State.setTop _ (mkF _ 327 #[ii p1, ii p2, ii p3, ii p4, ii p5, ii 3, rr b257, rr b289, ii 1, uu, uu, uu, uu] []))
        refine jn 426 (fun a => (a = (-1 : Int32) ∧ ¬ xi1_269 = (46 : Int32) ∧ ¬ xi1_276 = (46 : Int32)) ∨ (a = (2 : Int32) ∧ xi1_269 = (46 : Int32) ∧ ¬ xi1_276 = (46 : Int32)) ∨ (a = (3 : Int32) ∧ xi1_276 = (46 : Int32))) (fun a => #[ii p1, ii p2, ii p3, ii p4, ii p5, ii 3, rr b257, rr b289, ii 1, ii a, uu, uu, uu]) ?_ ?_
        · rintro _ (⟨rfl, hj391_0, hj391_1⟩ | ⟨rfl, hj391_0, hj391_1⟩ | ⟨rfl, hj391_0⟩)
          · show Go _ _ _ _ (State.setTop _ (mkF _ 426 #[ii p1, ii p2, ii p3, ii p4, ii p5, ii 3, rr b257, rr b289, ii 1, ii (-1), uu, uu, uu] []))
            subst hj323_0
            have V392 := q319.as [.int 47, .int 47, .int (xi1_269.toInt8.toInt32), .int (xi1_276.toInt8.toInt32)] rfl
            refine oa 428 X313 at_426 rfl rfl <| mS 431 0 X313 (rm_au141 G q316 q317 q318 V392 (own_bne (by decide) q270 hj391_0) (own_bne (by decide) q270 hj323_1) (own_bne (by decide) q277 hj391_1) (own_bne (by decide) q277 hj323_2) (by decide)) (u19 G) all0 at_428 rfl rfl rfl lr (by decide) all0 ?_
            rintro _ _ _ _ X393 rfl _ _ _
            refine sk [.null] rfl <| oU 433 (l' := #[ii p1, ii p2, ii p3, ii p4, ii p5, ii 3, rr b257, rr b289, ii 1, ii (-1), .val .null, uu, uu]) X393 at_431 rfl rfl rfl <| oi 435 X393 at_433 rfl rfl <| on 438 X393 at_435 rfl ((if0 _ _).trans (tlt (by decide)).2.1) <| o_aload 440 X393 at_438 rfl rfl rfl <| o_ifnonnullNo 443 X393 at_440 rfl <| oc 444 (v := 1) X393 at_443 rfl (by decide) <| og 448 X393 at_444 (by decide) ?_
            exact o_nret (y := (1 : Int32)) (t := .boolean) X393 at_448 rfl (by decide) (by simp) (by decide) (by decide) (fun _ CC => rfl)
          · show Go _ _ _ _ (State.setTop _ (mkF _ 426 #[ii p1, ii p2, ii p3, ii p4, ii p5, ii 3, rr b257, rr b289, ii 1, ii 2, uu, uu, uu] []))
            subst hj323_0
            subst hj391_0
            have V394 := q319.as [.int 47, .int 47, .int 46, .int (xi1_276.toInt8.toInt32)] rfl
            refine oa 428 X313 at_426 rfl rfl <| mS 431 0 X313 (rm_au142 G q316 q317 q318 V394 (own_bne (by decide) q277 hj391_1) (own_bne (by decide) q277 hj323_2) (by decide) (by decide) (by decide)) (u19 G) all0 at_428 rfl rfl rfl lr (by decide) all0 ?_
            rintro _ _ _ _ X395 ⟨xa1_396, _, _, rfl, q399, q400, q401, _, q403, _, _, _⟩ K395 _ _
            refine sk [.ref xa1_396] rfl <| oU 433 (l' := #[ii p1, ii p2, ii p3, ii p4, ii p5, ii 3, rr b257, rr b289, ii 1, ii 2, rr xa1_396, uu, uu]) X395 at_431 rfl rfl rfl <| oi 435 X395 at_433 rfl rfl <| oy 449 X395 at_435 (by decide) ((if0 _ _).trans (flt (by decide)).2.1) <| oa 451 X395 at_449 rfl rfl <| ifnonnullYesJ 456 X395 at_451 (by decide) <| oi 458 X395 at_456 rfl rfl <| oi 460 X395 at_458 rfl rfl <| o_isub 461 (v := 1) X395 at_460 rfl (by decide) <| oS 463 (l' := #[ii p1, ii p2, ii p3, ii p4, ii p5, ii 3, rr b257, rr b289, ii 1, ii 2, rr xa1_396, ii 1, uu]) X395 at_461 rfl rfl <| oa 465 X395 at_463 rfl rfl <| mV 468 0 X395 q399 (rm_au6 G q399 q400 q401 q403) (u25 G) all0 at_465 rfl rfl rfl lr (by decide) all0 ?_
            rintro _ _ _ _ X407 rfl K407 _ _
            refine sk [.int 1] rfl <| oi 470 X407 at_468 rfl rfl <| oY 475 X407 at_470 (by decide) (teq (by decide)).1 <| oc 476 (v := 1) X407 at_475 rfl (by decide) <| oS 478 (l' := #[ii p1, ii p2, ii p3, ii p4, ii p5, ii 3, rr b257, rr b289, ii 1, ii 2, rr xa1_396, ii 1, ii 1]) X407 at_476 rfl rfl <| oi 480 X407 at_478 rfl rfl <| oc 481 (v := 1) X407 at_480 rfl (by decide) <| oN 484 X407 at_481 rfl (flt (by decide)).1 <| oi 486 X407 at_484 rfl rfl <| on 489 X407 at_486 rfl ((if0 _ _).trans (feq (by decide)).1) <| oa 491 X407 at_489 rfl rfl <| oc 492 (v := 0) X407 at_491 rfl (by decide) ?_
            have f408 := q399.keep K407
            have f409 := q400.k0 K407
            have f410 := q401.k0 K407
            have f411 := q403.k0 K407
            refine mV 495 0 X407 f408 (rm_au78 G f408 f409 f410 f411) (u29 G) all0 at_492 rfl rfl rfl lr (by decide) all0 ?_
            rintro _ _ _ _ X412 rfl K412 _ _
            refine sk [.int (((xi1_276.toInt8.toInt32) &&& (255 : Int32)).toUInt32.toUInt16.toUInt32.toInt32)] rfl <| oa 497 X412 at_495 rfl rfl <| oi 499 X412 at_497 rfl rfl <| oc 500 (v := 1) X412 at_499 rfl (by decide) <| o_iadd 501 (v := 3) X412 at_500 rfl (by decide) ?_
            have f413 := ((((f305.oth W306 (by omega)).k1 K313 (by omega)).k0 K395).k0 K407).k0 K412
            refine oC 502 (v := (.int xi1_276)) X412 f413 ⟨by decide, by decide⟩ rfl at_501 rfl <| oN 505 X412 at_502 rfl (teq (own_ch255 q277)).2 <| oc 506 (v := 1) X412 at_505 rfl (by decide) <| og 510 X412 at_506 (by decide) <| oS 512 (l' := #[ii p1, ii p2, ii p3, ii p4, ii p5, ii 3, rr b257, rr b289, ii 1, ii 2, rr xa1_396, ii 1, ii 1]) X412 at_510 rfl rfl <| oi 514 X412 at_512 rfl rfl <| oc 515 (v := 2) X412 at_514 rfl (by decide) <| oY 546 X412 at_515 (by decide) (tlt (by decide)).1 <| oi 548 X412 at_546 rfl rfl <| oc 549 (v := 3) X412 at_548 rfl (by decide) <| oY 580 X412 at_549 (by decide) (tlt (by decide)).1 <| oi 582 X412 at_580 rfl rfl ?_
            exact o_nret (y := (1 : Int32)) (t := .boolean) X412 at_582 rfl (by decide) (by simp) (by decide) (by decide) (fun _ CC => rfl)
          · show Go _ _ _ _ (State.setTop _ (mkF _ 426 #[ii p1, ii p2, ii p3, ii p4, ii p5, ii 3, rr b257, rr b289, ii 1, ii 3, uu, uu, uu] []))
            subst hj323_0
            subst hj391_0
            have V414 := q319.as [.int 47, .int 47, .int (xi1_269.toInt8.toInt32), .int 46] rfl
            refine oa 428 X313 at_426 rfl rfl <| mS 431 0 X313 (rm_au143 G q316 q317 q318 V414 (own_bne (by decide) q270 hj323_1) (by decide) (by decide) (by decide)) (u19 G) all0 at_428 rfl rfl rfl lr (by decide) all0 ?_
            rintro _ _ _ _ X415 ⟨xa1_416, _, _, rfl, q419, q420, q421, q422, _⟩ _ _ _
            refine sk [.ref xa1_416] rfl <| oU 433 (l' := #[ii p1, ii p2, ii p3, ii p4, ii p5, ii 3, rr b257, rr b289, ii 1, ii 3, rr xa1_416, uu, uu]) X415 at_431 rfl rfl rfl <| oi 435 X415 at_433 rfl rfl <| oy 449 X415 at_435 (by decide) ((if0 _ _).trans (flt (by decide)).2.1) <| oa 451 X415 at_449 rfl rfl <| ifnonnullYesJ 456 X415 at_451 (by decide) <| oi 458 X415 at_456 rfl rfl <| oi 460 X415 at_458 rfl rfl <| o_isub 461 (v := 0) X415 at_460 rfl (by decide) <| oS 463 (l' := #[ii p1, ii p2, ii p3, ii p4, ii p5, ii 3, rr b257, rr b289, ii 1, ii 3, rr xa1_416, ii 0, uu]) X415 at_461 rfl rfl <| oa 465 X415 at_463 rfl rfl <| mV 468 0 X415 q419 (rm_au18 G q419 q420 q421 q422) (u25 G) all0 at_465 rfl rfl rfl lr (by decide) all0 ?_
            rintro _ _ _ _ X424 rfl _ _ _
            refine sk [i0] rfl <| oi 470 X424 at_468 rfl rfl <| oY 475 X424 at_470 (by decide) (teq (by decide)).1 <| oc 476 (v := 1) X424 at_475 rfl (by decide) <| oS 478 (l' := #[ii p1, ii p2, ii p3, ii p4, ii p5, ii 3, rr b257, rr b289, ii 1, ii 3, rr xa1_416, ii 0, ii 1]) X424 at_476 rfl rfl <| oi 480 X424 at_478 rfl rfl <| oc 481 (v := 1) X424 at_480 rfl (by decide) <| oY 512 X424 at_481 (by decide) (tlt (by decide)).1 <| oi 514 X424 at_512 rfl rfl <| oc 515 (v := 2) X424 at_514 rfl (by decide) <| oY 546 X424 at_515 (by decide) (tlt (by decide)).1 <| oi 548 X424 at_546 rfl rfl ?_
            refine oc 549 (v := 3) X424 at_548 rfl (by decide) <| oY 580 X424 at_549 (by decide) (tlt (by decide)).1 <| oi 582 X424 at_580 rfl rfl ?_
            exact o_nret (y := (1 : Int32)) (t := .boolean) X424 at_582 rfl (by decide) (by simp) (by decide) (by decide) (fun _ CC => rfl)
        · intro J2
          refine oc 328 (v := (-1)) X313 at_327 rfl (by decide) <| oS 330 (l' := #[ii p1, ii p2, ii p3, ii p4, ii p5, ii 3, rr b257, rr b289, ii 1, ii (-1), uu, uu, uu]) X313 at_328 rfl rfl <| oi 332 X313 at_330 rfl rfl <| oc 333 (v := 1) X313 at_332 rfl (by decide) <| oN 336 X313 at_333 rfl (flt (by decide)).1 <| oi 338 X313 at_336 rfl rfl <| oc 339 (v := 1) X313 at_338 rfl (by decide) <| oY 354 X313 at_339 (by decide) (flt (by decide)).2.1 <| oi 356 X313 at_354 rfl rfl <| oc 357 (v := 2) X313 at_356 rfl (by decide) <| oN 360 X313 at_357 rfl (flt (by decide)).1 <| oi 362 X313 at_360 rfl rfl ?_
          refine oc 363 (v := 2) X313 at_362 rfl (by decide) <| oN 366 X313 at_363 rfl (tlt (by decide)).2.1 <| oa 368 X313 at_366 rfl rfl <| oc 369 (v := 2) X313 at_368 rfl (by decide) ?_
          have f425 := (f305.oth W306 (by omega)).k1 K313 (by omega)
          refine oC 370 (v := (.int xi1_269)) X313 f425 ⟨by decide, by decide⟩ rfl at_369 rfl <| ob 372 (v := 46) X313 at_370 rfl (by decide) ?_
          by_cases hc426 : xi1_269 = (46 : Int32)
          · refine oN 375 X313 at_372 rfl (teq hc426).2 <| oc 376 (v := 2) X313 at_375 rfl (by decide) <| oS 378 (l' := #[ii p1, ii p2, ii p3, ii p4, ii p5, ii 3, rr b257, rr b289, ii 1, ii 2, uu, uu, uu]) X313 at_376 rfl rfl <| oi 380 X313 at_378 rfl rfl <| oc 381 (v := 3) X313 at_380 rfl (by decide) <| oN 384 X313 at_381 rfl (flt (by decide)).1 <| oi 386 X313 at_384 rfl rfl <| oc 387 (v := 3) X313 at_386 rfl (by decide) <| oN 390 X313 at_387 rfl (tlt (by decide)).2.1 <| oa 392 X313 at_390 rfl rfl <| oc 393 (v := 3) X313 at_392 rfl (by decide) <| oC 394 (v := (.int xi1_276)) X313 f425 ⟨by decide, by decide⟩ rfl at_393 rfl ?_
            refine ob 396 (v := 46) X313 at_394 rfl (by decide) ?_
            by_cases hc427 : xi1_276 = (46 : Int32)
            · refine oN 399 X313 at_396 rfl (teq hc427).2 <| oc 400 (v := 3) X313 at_399 rfl (by decide) <| oS 402 (l' := #[ii p1, ii p2, ii p3, ii p4, ii p5, ii 3, rr b257, rr b289, ii 1, ii 3, uu, uu, uu]) X313 at_400 rfl rfl <| oi 404 X313 at_402 rfl rfl <| oc 405 (v := 4) X313 at_404 rfl (by decide) <| oY 426 X313 at_405 (by decide) (tlt (by decide)).1 ?_
              exact J2 3 (Or.inr (Or.inr (⟨rfl, hc427⟩)))
            · refine oY 402 X313 at_396 (by decide) (feq hc427).2 <| oi 404 X313 at_402 rfl rfl <| oc 405 (v := 4) X313 at_404 rfl (by decide) <| oY 426 X313 at_405 (by decide) (tlt (by decide)).1 ?_
              exact J2 2 (Or.inr (Or.inl ⟨rfl, hc426, hc427⟩))
          · refine oY 378 X313 at_372 (by decide) (feq hc426).2 <| oi 380 X313 at_378 rfl rfl <| oc 381 (v := 3) X313 at_380 rfl (by decide) <| oN 384 X313 at_381 rfl (flt (by decide)).1 <| oi 386 X313 at_384 rfl rfl <| oc 387 (v := 3) X313 at_386 rfl (by decide) <| oN 390 X313 at_387 rfl (tlt (by decide)).2.1 <| oa 392 X313 at_390 rfl rfl <| oc 393 (v := 3) X313 at_392 rfl (by decide) <| oC 394 (v := (.int xi1_276)) X313 f425 ⟨by decide, by decide⟩ rfl at_393 rfl <| ob 396 (v := 46) X313 at_394 rfl (by decide) ?_
            by_cases hc428 : xi1_276 = (46 : Int32)
            · refine oN 399 X313 at_396 rfl (teq hc428).2 <| oc 400 (v := 3) X313 at_399 rfl (by decide) <| oS 402 (l' := #[ii p1, ii p2, ii p3, ii p4, ii p5, ii 3, rr b257, rr b289, ii 1, ii 3, uu, uu, uu]) X313 at_400 rfl rfl <| oi 404 X313 at_402 rfl rfl <| oc 405 (v := 4) X313 at_404 rfl (by decide) <| oY 426 X313 at_405 (by decide) (tlt (by decide)).1 ?_
              exact J2 3 (Or.inr (Or.inr (⟨rfl, hc428⟩)))
            · refine oY 402 X313 at_396 (by decide) (feq hc428).2 <| oi 404 X313 at_402 rfl rfl <| oc 405 (v := 4) X313 at_404 rfl (by decide) <| oY 426 X313 at_405 (by decide) (tlt (by decide)).1 ?_
              exact J2 (-1) (Or.inl ⟨rfl, hc426, hc428⟩)
      · show Go _ _ _ _ (State.setTop _ (mkF _ 327 #[ii p1, ii p2, ii p3, ii p4, ii p5, ii 3, rr b257, rr b289, ii 2, uu, uu, uu, uu] []))
        refine jn 426 (fun a => (a = (-1 : Int32) ∧ ¬ xi1_276 = (46 : Int32)) ∨ (a = (3 : Int32) ∧ xi1_276 = (46 : Int32))) (fun a => #[ii p1, ii p2, ii p3, ii p4, ii p5, ii 3, rr b257, rr b289, ii 2, ii a, uu, uu, uu]) ?_ ?_
        · rintro _ (⟨rfl, hj429_0⟩ | ⟨rfl, hj429_0⟩)
          · show Go _ _ _ _ (State.setTop _ (mkF _ 426 #[ii p1, ii p2, ii p3, ii p4, ii p5, ii 3, rr b257, rr b289, ii 2, ii (-1), uu, uu, uu] []))
            subst hj323_0
            have V430 := q319.as [.int 47, .int (xi1_262.toInt8.toInt32), .int 47, .int (xi1_276.toInt8.toInt32)] rfl
            refine oa 428 X313 at_426 rfl rfl <| mS 431 0 X313 (rm_au152 G q316 q317 q318 V430 (own_bne (by decide) q277 hj429_0) (own_bne (by decide) q277 hj323_1) (by decide)) (u19 G) all0 at_428 rfl rfl rfl lr (by decide) all0 ?_
            rintro _ _ _ _ X431 rfl _ _ _
            refine sk [.null] rfl <| oU 433 (l' := #[ii p1, ii p2, ii p3, ii p4, ii p5, ii 3, rr b257, rr b289, ii 2, ii (-1), .val .null, uu, uu]) X431 at_431 rfl rfl rfl <| oi 435 X431 at_433 rfl rfl <| on 438 X431 at_435 rfl ((if0 _ _).trans (tlt (by decide)).2.1) <| o_aload 440 X431 at_438 rfl rfl rfl <| o_ifnonnullNo 443 X431 at_440 rfl <| oc 444 (v := 1) X431 at_443 rfl (by decide) <| og 448 X431 at_444 (by decide) ?_
            exact o_nret (y := (1 : Int32)) (t := .boolean) X431 at_448 rfl (by decide) (by simp) (by decide) (by decide) (fun _ CC => rfl)
          · show Go _ _ _ _ (State.setTop _ (mkF _ 426 #[ii p1, ii p2, ii p3, ii p4, ii p5, ii 3, rr b257, rr b289, ii 2, ii 3, uu, uu, uu] []))
            subst hj323_0
            subst hj429_0
            have V432 := q319.as [.int 47, .int (xi1_262.toInt8.toInt32), .int 47, .int 46] rfl
            refine oa 428 X313 at_426 rfl rfl <| mS 431 0 X313 (rm_au153 G q316 q317 q318 V432 (by decide) (by decide) (by decide)) (u19 G) all0 at_428 rfl rfl rfl lr (by decide) all0 ?_
            rintro _ _ _ _ X433 ⟨xa1_434, _, _, rfl, q437, q438, q439, q440, _⟩ _ _ _
            refine sk [.ref xa1_434] rfl <| oU 433 (l' := #[ii p1, ii p2, ii p3, ii p4, ii p5, ii 3, rr b257, rr b289, ii 2, ii 3, rr xa1_434, uu, uu]) X433 at_431 rfl rfl rfl <| oi 435 X433 at_433 rfl rfl <| oy 449 X433 at_435 (by decide) ((if0 _ _).trans (flt (by decide)).2.1) <| oa 451 X433 at_449 rfl rfl <| ifnonnullYesJ 456 X433 at_451 (by decide) <| oi 458 X433 at_456 rfl rfl <| oi 460 X433 at_458 rfl rfl <| o_isub 461 (v := 0) X433 at_460 rfl (by decide) <| oS 463 (l' := #[ii p1, ii p2, ii p3, ii p4, ii p5, ii 3, rr b257, rr b289, ii 2, ii 3, rr xa1_434, ii 0, uu]) X433 at_461 rfl rfl <| oa 465 X433 at_463 rfl rfl <| mV 468 0 X433 q437 (rm_au18 G q437 q438 q439 q440) (u25 G) all0 at_465 rfl rfl rfl lr (by decide) all0 ?_
            rintro _ _ _ _ X442 rfl _ _ _
            refine sk [i0] rfl <| oi 470 X442 at_468 rfl rfl <| oY 475 X442 at_470 (by decide) (teq (by decide)).1 <| oc 476 (v := 1) X442 at_475 rfl (by decide) <| oS 478 (l' := #[ii p1, ii p2, ii p3, ii p4, ii p5, ii 3, rr b257, rr b289, ii 2, ii 3, rr xa1_434, ii 0, ii 1]) X442 at_476 rfl rfl <| oi 480 X442 at_478 rfl rfl <| oc 481 (v := 1) X442 at_480 rfl (by decide) <| oY 512 X442 at_481 (by decide) (tlt (by decide)).1 <| oi 514 X442 at_512 rfl rfl <| oc 515 (v := 2) X442 at_514 rfl (by decide) <| oY 546 X442 at_515 (by decide) (tlt (by decide)).1 <| oi 548 X442 at_546 rfl rfl ?_
            refine oc 549 (v := 3) X442 at_548 rfl (by decide) <| oY 580 X442 at_549 (by decide) (tlt (by decide)).1 <| oi 582 X442 at_580 rfl rfl ?_
            exact o_nret (y := (1 : Int32)) (t := .boolean) X442 at_582 rfl (by decide) (by simp) (by decide) (by decide) (fun _ CC => rfl)
        · intro J2
          refine oc 328 (v := (-1)) X313 at_327 rfl (by decide) <| oS 330 (l' := #[ii p1, ii p2, ii p3, ii p4, ii p5, ii 3, rr b257, rr b289, ii 2, ii (-1), uu, uu, uu]) X313 at_328 rfl rfl <| oi 332 X313 at_330 rfl rfl <| oc 333 (v := 1) X313 at_332 rfl (by decide) <| oN 336 X313 at_333 rfl (flt (by decide)).1 <| oi 338 X313 at_336 rfl rfl <| oc 339 (v := 1) X313 at_338 rfl (by decide) <| oY 354 X313 at_339 (by decide) (flt (by decide)).2.1 <| oi 356 X313 at_354 rfl rfl <| oc 357 (v := 2) X313 at_356 rfl (by decide) <| oN 360 X313 at_357 rfl (flt (by decide)).1 <| oi 362 X313 at_360 rfl rfl ?_
          refine oc 363 (v := 2) X313 at_362 rfl (by decide) <| oY 378 X313 at_363 (by decide) (flt (by decide)).2.1 <| oi 380 X313 at_378 rfl rfl <| oc 381 (v := 3) X313 at_380 rfl (by decide) <| oN 384 X313 at_381 rfl (flt (by decide)).1 <| oi 386 X313 at_384 rfl rfl <| oc 387 (v := 3) X313 at_386 rfl (by decide) <| oN 390 X313 at_387 rfl (tlt (by decide)).2.1 <| oa 392 X313 at_390 rfl rfl <| oc 393 (v := 3) X313 at_392 rfl (by decide) ?_
          have f443 := (f305.oth W306 (by omega)).k1 K313 (by omega)
          refine oC 394 (v := (.int xi1_276)) X313 f443 ⟨by decide, by decide⟩ rfl at_393 rfl <| ob 396 (v := 46) X313 at_394 rfl (by decide) ?_
          by_cases hc444 : xi1_276 = (46 : Int32)
          · refine oN 399 X313 at_396 rfl (teq hc444).2 <| oc 400 (v := 3) X313 at_399 rfl (by decide) <| oS 402 (l' := #[ii p1, ii p2, ii p3, ii p4, ii p5, ii 3, rr b257, rr b289, ii 2, ii 3, uu, uu, uu]) X313 at_400 rfl rfl <| oi 404 X313 at_402 rfl rfl <| oc 405 (v := 4) X313 at_404 rfl (by decide) <| oY 426 X313 at_405 (by decide) (tlt (by decide)).1 ?_
            exact J2 3 (Or.inr (⟨rfl, hc444⟩))
          · refine oY 402 X313 at_396 (by decide) (feq hc444).2 <| oi 404 X313 at_402 rfl rfl <| oc 405 (v := 4) X313 at_404 rfl (by decide) <| oY 426 X313 at_405 (by decide) (tlt (by decide)).1 ?_
            exact J2 (-1) (Or.inl ⟨rfl, hc444⟩)
      · show Go _ _ _ _ (State.setTop _ (mkF _ 327 #[ii p1, ii p2, ii p3, ii p4, ii p5, ii 3, rr b257, rr b289, ii 3, uu, uu, uu, uu] []))
        refine oc 328 (v := (-1)) X313 at_327 rfl (by decide) <| oS 330 (l' := #[ii p1, ii p2, ii p3, ii p4, ii p5, ii 3, rr b257, rr b289, ii 3, ii (-1), uu, uu, uu]) X313 at_328 rfl rfl <| oi 332 X313 at_330 rfl rfl <| oc 333 (v := 1) X313 at_332 rfl (by decide) <| oN 336 X313 at_333 rfl (flt (by decide)).1 <| oi 338 X313 at_336 rfl rfl <| oc 339 (v := 1) X313 at_338 rfl (by decide) <| oY 354 X313 at_339 (by decide) (flt (by decide)).2.1 <| oi 356 X313 at_354 rfl rfl <| oc 357 (v := 2) X313 at_356 rfl (by decide) <| oN 360 X313 at_357 rfl (flt (by decide)).1 <| oi 362 X313 at_360 rfl rfl ?_
        refine oc 363 (v := 2) X313 at_362 rfl (by decide) <| oY 378 X313 at_363 (by decide) (flt (by decide)).2.1 <| oi 380 X313 at_378 rfl rfl <| oc 381 (v := 3) X313 at_380 rfl (by decide) <| oN 384 X313 at_381 rfl (flt (by decide)).1 <| oi 386 X313 at_384 rfl rfl <| oc 387 (v := 3) X313 at_386 rfl (by decide) <| oY 402 X313 at_387 (by decide) (flt (by decide)).2.1 <| oi 404 X313 at_402 rfl rfl <| oc 405 (v := 4) X313 at_404 rfl (by decide) <| oY 426 X313 at_405 (by decide) (tlt (by decide)).1 ?_
        subst hj323_0
        have V445 := q319.as [.int 47, .int (xi1_262.toInt8.toInt32), .int (xi1_269.toInt8.toInt32), .int 47] rfl
        refine oa 428 X313 at_426 rfl rfl <| mS 431 0 X313 (rm_au159 G q316 q317 q318 V445 q320 (by decide)) (u19 G) all0 at_428 rfl rfl rfl lr (by decide) all0 ?_
        rintro _ _ _ _ X446 rfl _ _ _
        refine sk [.null] rfl <| oU 433 (l' := #[ii p1, ii p2, ii p3, ii p4, ii p5, ii 3, rr b257, rr b289, ii 3, ii (-1), .val .null, uu, uu]) X446 at_431 rfl rfl rfl <| oi 435 X446 at_433 rfl rfl <| on 438 X446 at_435 rfl ((if0 _ _).trans (tlt (by decide)).2.1) <| o_aload 440 X446 at_438 rfl rfl rfl <| o_ifnonnullNo 443 X446 at_440 rfl <| oc 444 (v := 1) X446 at_443 rfl (by decide) <| og 448 X446 at_444 (by decide) ?_
        exact o_nret (y := (1 : Int32)) (t := .boolean) X446 at_448 rfl (by decide) (by simp) (by decide) (by decide) (fun _ CC => rfl)
    · intro J1
      refine oc 253 (v := 0) X313 at_252 rfl (by decide) <| oS 255 (l' := #[ii p1, ii p2, ii p3, ii p4, ii p5, ii 3, rr b257, rr b289, ii 0, uu, uu, uu, uu]) X313 at_253 rfl rfl <| oi 257 X313 at_255 rfl rfl <| oc 258 (v := 1) X313 at_257 rfl (by decide) <| oN 261 X313 at_258 rfl (flt (by decide)).1 <| oa 263 X313 at_261 rfl rfl <| oc 264 (v := 1) X313 at_263 rfl (by decide) ?_
      have f447 := (f305.oth W306 (by omega)).k1 K313 (by omega)
      refine oC 265 (v := (.int xi1_262)) X313 f447 ⟨by decide, by decide⟩ rfl at_264 rfl <| ob 267 (v := 47) X313 at_265 rfl (by decide) ?_
      by_cases hc448 : xi1_262 = (47 : Int32)
      · refine oN 270 X313 at_267 rfl (teq hc448).2 <| oc 271 (v := 1) X313 at_270 rfl (by decide) <| oS 273 (l' := #[ii p1, ii p2, ii p3, ii p4, ii p5, ii 3, rr b257, rr b289, ii 1, uu, uu, uu, uu]) X313 at_271 rfl rfl <| oi 275 X313 at_273 rfl rfl <| oc 276 (v := 2) X313 at_275 rfl (by decide) <| oN 279 X313 at_276 rfl (flt (by decide)).1 <| oa 281 X313 at_279 rfl rfl <| oc 282 (v := 2) X313 at_281 rfl (by decide) <| oC 283 (v := (.int xi1_269)) X313 f447 ⟨by decide, by decide⟩ rfl at_282 rfl <| ob 285 (v := 47) X313 at_283 rfl (by decide) ?_
        by_cases hc449 : xi1_269 = (47 : Int32)
        · refine oN 288 X313 at_285 rfl (teq hc449).2 <| oc 289 (v := 2) X313 at_288 rfl (by decide) <| oS 291 (l' := #[ii p1, ii p2, ii p3, ii p4, ii p5, ii 3, rr b257, rr b289, ii 2, uu, uu, uu, uu]) X313 at_289 rfl rfl <| oi 293 X313 at_291 rfl rfl <| oc 294 (v := 3) X313 at_293 rfl (by decide) <| oN 297 X313 at_294 rfl (flt (by decide)).1 <| oa 299 X313 at_297 rfl rfl <| oc 300 (v := 3) X313 at_299 rfl (by decide) <| oC 301 (v := (.int xi1_276)) X313 f447 ⟨by decide, by decide⟩ rfl at_300 rfl <| ob 303 (v := 47) X313 at_301 rfl (by decide) ?_
          by_cases hc450 : xi1_276 = (47 : Int32)
          · refine oN 306 X313 at_303 rfl (teq hc450).2 <| oc 307 (v := 3) X313 at_306 rfl (by decide) <| oS 309 (l' := #[ii p1, ii p2, ii p3, ii p4, ii p5, ii 3, rr b257, rr b289, ii 3, uu, uu, uu, uu]) X313 at_307 rfl rfl <| oi 311 X313 at_309 rfl rfl <| oc 312 (v := 4) X313 at_311 rfl (by decide) <| oY 327 X313 at_312 (by decide) (tlt (by decide)).1 ?_
            exact J1 3 (Or.inr (Or.inr (Or.inr (⟨rfl, hc450⟩))))
          · refine oY 309 X313 at_303 (by decide) (feq hc450).2 <| oi 311 X313 at_309 rfl rfl <| oc 312 (v := 4) X313 at_311 rfl (by decide) <| oY 327 X313 at_312 (by decide) (tlt (by decide)).1 ?_
            exact J1 2 (Or.inr (Or.inr (Or.inl ⟨rfl, hc449, hc450⟩)))
        · refine oY 291 X313 at_285 (by decide) (feq hc449).2 <| oi 293 X313 at_291 rfl rfl <| oc 294 (v := 3) X313 at_293 rfl (by decide) <| oN 297 X313 at_294 rfl (flt (by decide)).1 <| oa 299 X313 at_297 rfl rfl <| oc 300 (v := 3) X313 at_299 rfl (by decide) <| oC 301 (v := (.int xi1_276)) X313 f447 ⟨by decide, by decide⟩ rfl at_300 rfl <| ob 303 (v := 47) X313 at_301 rfl (by decide) ?_
          by_cases hc451 : xi1_276 = (47 : Int32)
          · refine oN 306 X313 at_303 rfl (teq hc451).2 <| oc 307 (v := 3) X313 at_306 rfl (by decide) <| oS 309 (l' := #[ii p1, ii p2, ii p3, ii p4, ii p5, ii 3, rr b257, rr b289, ii 3, uu, uu, uu, uu]) X313 at_307 rfl rfl <| oi 311 X313 at_309 rfl rfl <| oc 312 (v := 4) X313 at_311 rfl (by decide) <| oY 327 X313 at_312 (by decide) (tlt (by decide)).1 ?_
            exact J1 3 (Or.inr (Or.inr (Or.inr (⟨rfl, hc451⟩))))
          · refine oY 309 X313 at_303 (by decide) (feq hc451).2 <| oi 311 X313 at_309 rfl rfl <| oc 312 (v := 4) X313 at_311 rfl (by decide) <| oY 327 X313 at_312 (by decide) (tlt (by decide)).1 ?_
            exact J1 1 (Or.inr (Or.inl ⟨rfl, hc448, hc449, hc451⟩))
      · refine oY 273 X313 at_267 (by decide) (feq hc448).2 <| oi 275 X313 at_273 rfl rfl <| oc 276 (v := 2) X313 at_275 rfl (by decide) <| oN 279 X313 at_276 rfl (flt (by decide)).1 <| oa 281 X313 at_279 rfl rfl <| oc 282 (v := 2) X313 at_281 rfl (by decide) <| oC 283 (v := (.int xi1_269)) X313 f447 ⟨by decide, by decide⟩ rfl at_282 rfl <| ob 285 (v := 47) X313 at_283 rfl (by decide) ?_
        by_cases hc452 : xi1_269 = (47 : Int32)
        · refine oN 288 X313 at_285 rfl (teq hc452).2 <| oc 289 (v := 2) X313 at_288 rfl (by decide) <| oS 291 (l' := #[ii p1, ii p2, ii p3, ii p4, ii p5, ii 3, rr b257, rr b289, ii 2, uu, uu, uu, uu]) X313 at_289 rfl rfl <| oi 293 X313 at_291 rfl rfl <| oc 294 (v := 3) X313 at_293 rfl (by decide) <| oN 297 X313 at_294 rfl (flt (by decide)).1 <| oa 299 X313 at_297 rfl rfl <| oc 300 (v := 3) X313 at_299 rfl (by decide) <| oC 301 (v := (.int xi1_276)) X313 f447 ⟨by decide, by decide⟩ rfl at_300 rfl <| ob 303 (v := 47) X313 at_301 rfl (by decide) ?_
          by_cases hc453 : xi1_276 = (47 : Int32)
          · refine oN 306 X313 at_303 rfl (teq hc453).2 <| oc 307 (v := 3) X313 at_306 rfl (by decide) <| oS 309 (l' := #[ii p1, ii p2, ii p3, ii p4, ii p5, ii 3, rr b257, rr b289, ii 3, uu, uu, uu, uu]) X313 at_307 rfl rfl <| oi 311 X313 at_309 rfl rfl <| oc 312 (v := 4) X313 at_311 rfl (by decide) <| oY 327 X313 at_312 (by decide) (tlt (by decide)).1 ?_
            exact J1 3 (Or.inr (Or.inr (Or.inr (⟨rfl, hc453⟩))))
          · refine oY 309 X313 at_303 (by decide) (feq hc453).2 <| oi 311 X313 at_309 rfl rfl <| oc 312 (v := 4) X313 at_311 rfl (by decide) <| oY 327 X313 at_312 (by decide) (tlt (by decide)).1 ?_
            exact J1 2 (Or.inr (Or.inr (Or.inl ⟨rfl, hc452, hc453⟩)))
        · refine oY 291 X313 at_285 (by decide) (feq hc452).2 <| oi 293 X313 at_291 rfl rfl <| oc 294 (v := 3) X313 at_293 rfl (by decide) <| oN 297 X313 at_294 rfl (flt (by decide)).1 <| oa 299 X313 at_297 rfl rfl <| oc 300 (v := 3) X313 at_299 rfl (by decide) <| oC 301 (v := (.int xi1_276)) X313 f447 ⟨by decide, by decide⟩ rfl at_300 rfl <| ob 303 (v := 47) X313 at_301 rfl (by decide) ?_
          by_cases hc454 : xi1_276 = (47 : Int32)
          · refine oN 306 X313 at_303 rfl (teq hc454).2 <| oc 307 (v := 3) X313 at_306 rfl (by decide) <| oS 309 (l' := #[ii p1, ii p2, ii p3, ii p4, ii p5, ii 3, rr b257, rr b289, ii 3, uu, uu, uu, uu]) X313 at_307 rfl rfl <| oi 311 X313 at_309 rfl rfl <| oc 312 (v := 4) X313 at_311 rfl (by decide) <| oY 327 X313 at_312 (by decide) (tlt (by decide)).1 ?_
            exact J1 3 (Or.inr (Or.inr (Or.inr (⟨rfl, hc454⟩))))
          · refine oY 309 X313 at_303 (by decide) (feq hc454).2 <| oi 311 X313 at_309 rfl rfl <| oc 312 (v := 4) X313 at_311 rfl (by decide) <| oY 327 X313 at_312 (by decide) (tlt (by decide)).1 ?_
            exact J1 0 (Or.inl ⟨rfl, hc448, hc452, hc454⟩)
  · refine o_irem 7 (v := 4) X0 at_6 rfl (by decide) hk1 <| oS 9 (l' := #[ii p1, ii p2, ii p3, ii p4, ii p5, ii 4, uu, uu, uu, uu, uu, uu, uu]) X0 at_7 rfl rfl <| oc 10 (v := 5) X0 at_9 rfl (by decide) <| nP (aty := .char) 12 5 X0 (w1 G) at_10 rfl (by decide) had_char ?_
    intro _ h455 b455 k455 X455 _ _ _ V455 A455 _ _
    have V456 : av0 Z h455 b455 k455 5 [i0, i0, i0, i0, i0] := V455.pad (pad_rep [] (.int (0 : Int32)) 5)
    refine oU 14 (l' := #[ii p1, ii p2, ii p3, ii p4, ii p5, ii 4, rr b455, uu, uu, uu, uu, uu, uu]) X455 at_12 rfl rfl rfl <| oa 16 X455 at_14 rfl rfl <| oc 17 (v := 0) X455 at_16 rfl (by decide) <| ob 19 (v := 47) X455 at_17 rfl (by decide) <| sC 20 0 47 X455 V456 (by decide) (lb rfl) (by decide) at_19 rfl (by omega) (Or.inr (by omega)) (sx X455 A455 nc0) ?_
    rintro _ _ X457 ⟨_, _, W457⟩ _ V457
    have := W457.size
    have V458 := V457.as [.int 47, i0, i0, i0, i0] rfl
    refine oa 22 X457 at_20 rfl rfl <| oc 23 (v := 1) X457 at_22 rfl (by decide) <| oI 24 X457 at_23 rfl rfl <| mS 27 2 X457 (rm_draw G ) (u0 G) all0 at_24 rfl rfl rfl lr (by decide) all0 ?_
    rintro _ _ _ _ X459 ⟨xi1_460, rfl, q461⟩ K459 _ _
    refine sk [.int xi1_460, .int 1, .ref b455] rfl ?_
    have f462 := V458.k0 K459
    have f464 := (A455.wr W457).keep K459
    refine sC 28 1 xi1_460 X459 f462 (by decide) (lb rfl) (own_narC q461) at_27 rfl (by omega) (Or.inr (by omega)) (sx X459 f464 nc0) ?_
    rintro _ _ X463 ⟨_, _, W463⟩ _ V463
    have := W463.size
    have V465 := V463.as [.int 47, .int xi1_460, i0, i0, i0] rfl
    refine oa 30 X463 at_28 rfl rfl <| oc 31 (v := 2) X463 at_30 rfl (by decide) <| oI 32 X463 at_31 rfl rfl <| mS 35 2 X463 (rm_draw G ) (u0 G) all0 at_32 rfl rfl rfl lr (by decide) all0 ?_
    rintro _ _ _ _ X466 ⟨xi1_467, rfl, q468⟩ K466 _ _
    refine sk [.int xi1_467, .int 2, .ref b455] rfl ?_
    have f469 := V465.k0 K466
    have f471 := (f464.wr W463).keep K466
    refine sC 36 2 xi1_467 X466 f469 (by decide) (lb rfl) (own_narC q468) at_35 rfl (by omega) (Or.inr (by omega)) (sx X466 f471 nc0) ?_
    rintro _ _ X470 ⟨_, _, W470⟩ _ V470
    have := W470.size
    have V472 := V470.as [.int 47, .int xi1_460, .int xi1_467, i0, i0] rfl
    refine oa 38 X470 at_36 rfl rfl <| oc 39 (v := 3) X470 at_38 rfl (by decide) <| oI 40 X470 at_39 rfl rfl <| mS 43 2 X470 (rm_draw G ) (u0 G) all0 at_40 rfl rfl rfl lr (by decide) all0 ?_
    rintro _ _ _ _ X473 ⟨xi1_474, rfl, q475⟩ K473 _ _
    refine sk [.int xi1_474, .int 3, .ref b455] rfl ?_
    have f476 := V472.k0 K473
    have f478 := (f471.wr W470).keep K473
    refine sC 44 3 xi1_474 X473 f476 (by decide) (lb rfl) (own_narC q475) at_43 rfl (by omega) (Or.inr (by omega)) (sx X473 f478 nc0) ?_
    rintro _ _ X477 ⟨_, _, W477⟩ _ V477
    have := W477.size
    have V479 := V477.as [.int 47, .int xi1_460, .int xi1_467, .int xi1_474, i0] rfl
    refine oa 46 X477 at_44 rfl rfl <| oc 47 (v := 4) X477 at_46 rfl (by decide) <| oI 48 X477 at_47 rfl rfl <| mS 51 2 X477 (rm_draw G ) (u0 G) all0 at_48 rfl rfl rfl lr (by decide) all0 ?_
    rintro _ _ _ _ X480 ⟨xi1_481, rfl, q482⟩ K480 _ _
    refine sk [.int xi1_481, .int 4, .ref b455] rfl ?_
    have f483 := V479.k0 K480
    have f485 := (f478.wr W477).keep K480
    refine sC 52 4 xi1_481 X480 f483 (by decide) (lb rfl) (own_narC q482) at_51 rfl (by omega) (Or.inr (by omega)) (sx X480 f485 nc0) ?_
    rintro _ _ X484 ⟨_, _, W484⟩ _ V484
    have := W484.size
    have V486 := V484.as [.int 47, .int xi1_460, .int xi1_467, .int xi1_474, .int xi1_481] rfl
    refine oi 54 X484 at_52 rfl rfl <| oy 79 X484 at_54 (by decide) ((if0 _ _).trans (feq (by decide)).2) <| oi 81 X484 at_79 rfl rfl <| oc 82 (v := 1) X484 at_81 rfl (by decide) <| oY 114 X484 at_82 (by decide) (feq (by decide)).2 <| oi 116 X484 at_114 rfl rfl <| oc 117 (v := 2) X484 at_116 rfl (by decide) <| oY 156 X484 at_117 (by decide) (feq (by decide)).2 <| oi 158 X484 at_156 rfl rfl <| oc 159 (v := 3) X484 at_158 rfl (by decide) <| oY 205 X484 at_159 (by decide) (feq (by decide)).2 <| o_new 208 X484 (w6 G) (w7 G) (w8 G) at_205 rfl (by decide) (by decide) ?_
    intro _ h487 b487 X487 _ _ E487 A487 D487 _ _ S487
    have f488 : fd0 Z h487 b487 (.int 0) := D487 (Or.inr (w32 G)) fd_0
    have f489 : fd1 Z h487 b487 .null := D487 (Or.inr (w34 G)) fd_1
    refine oD 209 X487 at_208 rfl rfl <| oc 210 (v := 5) X487 at_209 rfl (by decide) <| nP (aty := .char) 212 5 X487 (w1 G) at_210 rfl (by decide) had_char ?_
    intro _ h490 b490 k490 X490 _ _ E490 V490 A490 C490 _
    have V491 : av0 Z h490 b490 k490 5 [i0, i0, i0, i0, i0] := V490.pad (pad_rep [] (.int (0 : Int32)) 5)
    refine oD 213 X490 at_212 rfl rfl <| oc 214 (v := 0) X490 at_213 rfl (by decide) <| oa 216 X490 at_214 rfl rfl <| oc 217 (v := 0) X490 at_216 rfl (by decide) ?_
    have f492 := (V486.ext E487).ext E490
    refine oC 218 (v := (.int 47)) X490 f492 ⟨by decide, by decide⟩ rfl at_217 rfl <| sC 219 0 47 X490 V491 (by decide) (lb rfl) (by decide) at_218 rfl (by omega) (Or.inr (by omega)) (sx X490 A490 nc0) ?_
    rintro _ _ X493 ⟨_, _, W493⟩ C493 V493
    have := W493.size
    have V494 := V493.as [.int 47, i0, i0, i0, i0] rfl
    refine oD 220 X493 at_219 rfl rfl <| oc 221 (v := 1) X493 at_220 rfl (by decide) <| oa 223 X493 at_221 rfl rfl <| oc 224 (v := 1) X493 at_223 rfl (by decide) ?_
    have f495 := f492.oth W493 (by omega)
    refine oC 225 (v := (.int xi1_460)) X493 f495 ⟨by decide, by decide⟩ rfl at_224 rfl ?_
    have f497 := A490.wr W493
    refine sC 226 1 xi1_460 X493 V494 (by decide) (lb rfl) (own_narC q461) at_225 rfl (by omega) (Or.inr (by omega)) (sx X493 f497 nc0) ?_
    rintro _ _ X496 ⟨_, _, W496⟩ C496 V496
    have := W496.size
    have V498 := V496.as [.int 47, .int xi1_460, i0, i0, i0] rfl
    refine oD 227 X496 at_226 rfl rfl <| oc 228 (v := 2) X496 at_227 rfl (by decide) <| oa 230 X496 at_228 rfl rfl <| oc 231 (v := 2) X496 at_230 rfl (by decide) ?_
    have f499 := f495.oth W496 (by omega)
    refine oC 232 (v := (.int xi1_467)) X496 f499 ⟨by decide, by decide⟩ rfl at_231 rfl ?_
    have f501 := f497.wr W496
    refine sC 233 2 xi1_467 X496 V498 (by decide) (lb rfl) (own_narC q468) at_232 rfl (by omega) (Or.inr (by omega)) (sx X496 f501 nc0) ?_
    rintro _ _ X500 ⟨_, _, W500⟩ C500 V500
    have := W500.size
    have V502 := V500.as [.int 47, .int xi1_460, .int xi1_467, i0, i0] rfl
    refine oD 234 X500 at_233 rfl rfl <| oc 235 (v := 3) X500 at_234 rfl (by decide) <| oa 237 X500 at_235 rfl rfl <| oc 238 (v := 3) X500 at_237 rfl (by decide) ?_
    have f503 := f499.oth W500 (by omega)
    refine oC 239 (v := (.int xi1_474)) X500 f503 ⟨by decide, by decide⟩ rfl at_238 rfl ?_
    have f505 := f501.wr W500
    refine sC 240 3 xi1_474 X500 V502 (by decide) (lb rfl) (own_narC q475) at_239 rfl (by omega) (Or.inr (by omega)) (sx X500 f505 nc0) ?_
    rintro _ _ X504 ⟨_, _, W504⟩ C504 V504
    have := W504.size
    have V506 := V504.as [.int 47, .int xi1_460, .int xi1_467, .int xi1_474, i0] rfl
    refine oD 241 X504 at_240 rfl rfl <| oc 242 (v := 4) X504 at_241 rfl (by decide) <| oa 244 X504 at_242 rfl rfl <| oc 245 (v := 4) X504 at_244 rfl (by decide) ?_
    have f507 := f503.oth W504 (by omega)
    refine oC 246 (v := (.int xi1_481)) X504 f507 ⟨by decide, by decide⟩ rfl at_245 rfl ?_
    have f509 := f505.wr W504
    refine sC 247 4 xi1_481 X504 V506 (by decide) (lb rfl) (own_narC q482) at_246 rfl (by omega) (Or.inr (by omega)) (sx X504 f509 nc0) ?_
    rintro _ _ X508 ⟨_, _, W508⟩ C508 V508
    have := W508.size
    have V510 := V508.as [.int 47, .int xi1_460, .int xi1_467, .int xi1_474, .int xi1_481] rfl
    have f511 := (((((A487.ext E490).wr W493).wr W496).wr W500).wr W504).wr W508
    have f512 := (((((f488.ext E490).oth W493 (by omega)).oth W496 (by omega)).oth W500 (by omega)).oth W504 (by omega)).oth W508 (by omega)
    have f513 := (((((f489.ext E490).oth W493 (by omega)).oth W496 (by omega)).oth W500 (by omega)).oth W504 (by omega)).oth W508 (by omega)
    have f514 := C508.safe (own_lt (by omega)) (C504.safe (own_lt (by omega)) (C500.safe (own_lt (by omega)) (C496.safe (own_lt (by omega)) (C493.safe (own_lt (by omega)) (C490.safe (own_lt (by omega)) S487)))))
    refine mP 250 1 X508 (rm_au164 G f511 f512 f513 V510 q461 q468 q475 q482 (by omega)) (u5 G) (sS (by omega) f514 all0) at_247 rfl rfl rfl lr (by decide) (aR (by omega) all0) ?_
    rintro _ _ _ _ X515 ⟨_, _, rfl, q518, q519, q520, q521, q522, _, _⟩ K515 _ _
    refine sk [.ref b487] rfl <| oU 252 (l' := #[ii p1, ii p2, ii p3, ii p4, ii p5, ii 4, rr b455, rr b487, uu, uu, uu, uu, uu]) X515 at_250 rfl rfl rfl ?_
    refine jn 327 (fun a => (a = (0 : Int32) ∧ ¬ xi1_460 = (47 : Int32) ∧ ¬ xi1_467 = (47 : Int32) ∧ ¬ xi1_474 = (47 : Int32) ∧ ¬ xi1_481 = (47 : Int32)) ∨ (a = (1 : Int32) ∧ xi1_460 = (47 : Int32) ∧ ¬ xi1_467 = (47 : Int32) ∧ ¬ xi1_474 = (47 : Int32) ∧ ¬ xi1_481 = (47 : Int32)) ∨ (a = (2 : Int32) ∧ xi1_467 = (47 : Int32) ∧ ¬ xi1_474 = (47 : Int32) ∧ ¬ xi1_481 = (47 : Int32)) ∨ (a = (3 : Int32) ∧ xi1_474 = (47 : Int32) ∧ ¬ xi1_481 = (47 : Int32)) ∨ (a = (4 : Int32) ∧ xi1_481 = (47 : Int32))) (fun a => #[ii p1, ii p2, ii p3, ii p4, ii p5, ii 4, rr b455, rr b487, ii a, uu, uu, uu, uu]) ?_ ?_
    · rintro _ (⟨rfl, hj525_0, hj525_1, hj525_2, hj525_3⟩ | ⟨rfl, hj525_0, hj525_1, hj525_2, hj525_3⟩ | ⟨rfl, hj525_0, hj525_1, hj525_2⟩ | ⟨rfl, hj525_0, hj525_1⟩ | ⟨rfl, hj525_0⟩)
      · show Go _ _ _ _ (State.setTop _ (mkF _ 327 #[ii p1, ii p2, ii p3, ii p4, ii p5, ii 4, rr b455, rr b487, ii 0, uu, uu, uu, uu] []))
        refine jn 426 (fun a => (a = (-1 : Int32) ∧ ¬ xi1_460 = (46 : Int32) ∧ ¬ xi1_467 = (46 : Int32) ∧ ¬ xi1_474 = (46 : Int32) ∧ ¬ xi1_481 = (46 : Int32)) ∨ (a = (1 : Int32) ∧ xi1_460 = (46 : Int32) ∧ ¬ xi1_467 = (46 : Int32) ∧ ¬ xi1_474 = (46 : Int32) ∧ ¬ xi1_481 = (46 : Int32)) ∨ (a = (2 : Int32) ∧ xi1_467 = (46 : Int32) ∧ ¬ xi1_474 = (46 : Int32) ∧ ¬ xi1_481 = (46 : Int32)) ∨ (a = (3 : Int32) ∧ xi1_474 = (46 : Int32) ∧ ¬ xi1_481 = (46 : Int32)) ∨ (a = (4 : Int32) ∧ xi1_481 = (46 : Int32))) (fun a => #[ii p1, ii p2, ii p3, ii p4, ii p5, ii 4, rr b455, rr b487, ii 0, ii a, uu, uu, uu]) ?_ ?_
        · rintro _ (⟨rfl, hj526_0, hj526_1, hj526_2, hj526_3⟩ | ⟨rfl, hj526_0, hj526_1, hj526_2, hj526_3⟩ | ⟨rfl, hj526_0, hj526_1, hj526_2⟩ | ⟨rfl, hj526_0, hj526_1⟩ | ⟨rfl, hj526_0⟩)
          · show Go _ _ _ _ (State.setTop _ (mkF _ 426 #[ii p1, ii p2, ii p3, ii p4, ii p5, ii 4, rr b455, rr b487, ii 0, ii (-1), uu, uu, uu] []))
            refine oa 428 X515 at_426 rfl rfl <| mS 431 0 X515 (rm_au177 G q518 q519 q520 q521 (own_bne (by decide) q461 hj526_0) (own_bne (by decide) q461 hj525_0) (own_bne (by decide) q468 hj526_1) (own_bne (by decide) q468 hj525_1) (own_bne (by decide) q475 hj526_2) (own_bne (by decide) q475 hj525_2) (own_bne (by decide) q482 hj526_3) (own_bne (by decide) q482 hj525_3) (by decide)) (u19 G) all0 at_428 rfl rfl rfl lr (by decide) all0 ?_
            rintro _ _ _ _ X527 rfl _ _ _
            refine sk [.null] rfl <| oU 433 (l' := #[ii p1, ii p2, ii p3, ii p4, ii p5, ii 4, rr b455, rr b487, ii 0, ii (-1), .val .null, uu, uu]) X527 at_431 rfl rfl rfl <| oi 435 X527 at_433 rfl rfl <| on 438 X527 at_435 rfl ((if0 _ _).trans (tlt (by decide)).2.1) <| o_aload 440 X527 at_438 rfl rfl rfl <| o_ifnonnullNo 443 X527 at_440 rfl <| oc 444 (v := 1) X527 at_443 rfl (by decide) <| og 448 X527 at_444 (by decide) ?_
            exact o_nret (y := (1 : Int32)) (t := .boolean) X527 at_448 rfl (by decide) (by simp) (by decide) (by decide) (fun _ CC => rfl)
          · show Go _ _ _ _ (State.setTop _ (mkF _ 426 #[ii p1, ii p2, ii p3, ii p4, ii p5, ii 4, rr b455, rr b487, ii 0, ii 1, uu, uu, uu] []))
            subst hj526_0
            have V528 := q521.as [.int 47, .int 46, .int (xi1_467.toInt8.toInt32), .int (xi1_474.toInt8.toInt32), .int (xi1_481.toInt8.toInt32)] rfl
            refine oa 428 X515 at_426 rfl rfl <| mS 431 0 X515 (rm_au181 G q518 q519 q520 V528 (own_bne (by decide) q468 hj526_1) (own_bne (by decide) q468 hj525_1) (own_bne (by decide) q475 hj526_2) (own_bne (by decide) q475 hj525_2) (own_bne (by decide) q482 hj526_3) (own_bne (by decide) q482 hj525_3) (by decide) (by decide) (by decide)) (u19 G) all0 at_428 rfl rfl rfl lr (by decide) all0 ?_
            rintro _ _ _ _ X529 ⟨xa1_530, _, _, rfl, q533, q534, q535, _, q537, _, _, _⟩ K529 _ _
            refine sk [.ref xa1_530] rfl <| oU 433 (l' := #[ii p1, ii p2, ii p3, ii p4, ii p5, ii 4, rr b455, rr b487, ii 0, ii 1, rr xa1_530, uu, uu]) X529 at_431 rfl rfl rfl <| oi 435 X529 at_433 rfl rfl <| oy 449 X529 at_435 (by decide) ((if0 _ _).trans (flt (by decide)).2.1) <| oa 451 X529 at_449 rfl rfl <| ifnonnullYesJ 456 X529 at_451 (by decide) <| oi 458 X529 at_456 rfl rfl <| oi 460 X529 at_458 rfl rfl <| o_isub 461 (v := 3) X529 at_460 rfl (by decide) <| oS 463 (l' := #[ii p1, ii p2, ii p3, ii p4, ii p5, ii 4, rr b455, rr b487, ii 0, ii 1, rr xa1_530, ii 3, uu]) X529 at_461 rfl rfl <| oa 465 X529 at_463 rfl rfl <| mV 468 0 X529 q533 (rm_au58 G q533 q534 q535 q537) (u25 G) all0 at_465 rfl rfl rfl lr (by decide) all0 ?_
            rintro _ _ _ _ X541 rfl K541 _ _
            refine sk [.int 3] rfl <| oi 470 X541 at_468 rfl rfl <| oY 475 X541 at_470 (by decide) (teq (by decide)).1 <| oc 476 (v := 1) X541 at_475 rfl (by decide) <| oS 478 (l' := #[ii p1, ii p2, ii p3, ii p4, ii p5, ii 4, rr b455, rr b487, ii 0, ii 1, rr xa1_530, ii 3, ii 1]) X541 at_476 rfl rfl <| oi 480 X541 at_478 rfl rfl <| oc 481 (v := 1) X541 at_480 rfl (by decide) <| oN 484 X541 at_481 rfl (flt (by decide)).1 <| oi 486 X541 at_484 rfl rfl <| on 489 X541 at_486 rfl ((if0 _ _).trans (feq (by decide)).1) <| oa 491 X541 at_489 rfl rfl <| oc 492 (v := 0) X541 at_491 rfl (by decide) ?_
            have f542 := q533.keep K541
            have f543 := q534.k0 K541
            have f544 := q535.k0 K541
            have f545 := q537.k0 K541
            refine mV 495 0 X541 f542 (rm_au183 G f542 f543 f544 f545) (u29 G) all0 at_492 rfl rfl rfl lr (by decide) all0 ?_
            rintro _ _ _ _ X546 rfl K546 _ _
            refine sk [.int (((xi1_467.toInt8.toInt32) &&& (255 : Int32)).toUInt32.toUInt16.toUInt32.toInt32)] rfl <| oa 497 X546 at_495 rfl rfl <| oi 499 X546 at_497 rfl rfl <| oc 500 (v := 1) X546 at_499 rfl (by decide) <| o_iadd 501 (v := 2) X546 at_500 rfl (by decide) ?_
            have f547 := ((((f507.oth W508 (by omega)).k1 K515 (by omega)).k0 K529).k0 K541).k0 K546
            refine oC 502 (v := (.int xi1_467)) X546 f547 ⟨by decide, by decide⟩ rfl at_501 rfl <| oN 505 X546 at_502 rfl (teq (own_ch255 q468)).2 <| oc 506 (v := 1) X546 at_505 rfl (by decide) <| og 510 X546 at_506 (by decide) <| oS 512 (l' := #[ii p1, ii p2, ii p3, ii p4, ii p5, ii 4, rr b455, rr b487, ii 0, ii 1, rr xa1_530, ii 3, ii 1]) X546 at_510 rfl rfl <| oi 514 X546 at_512 rfl rfl <| oc 515 (v := 2) X546 at_514 rfl (by decide) <| oN 518 X546 at_515 rfl (flt (by decide)).1 <| oi 520 X546 at_518 rfl rfl <| on 523 X546 at_520 rfl ((if0 _ _).trans (feq (by decide)).1) <| oa 525 X546 at_523 rfl rfl <| oc 526 (v := 1) X546 at_525 rfl (by decide) ?_
            have f548 := f542.keep K546
            have f549 := f543.k0 K546
            have f550 := f544.k0 K546
            have f551 := f545.k0 K546
            refine mV 529 0 X546 f548 (rm_au185 G f548 f549 f550 f551) (u29 G) all0 at_526 rfl rfl rfl lr (by decide) all0 ?_
            rintro _ _ _ _ X552 rfl K552 _ _
            refine sk [.int (((xi1_474.toInt8.toInt32) &&& (255 : Int32)).toUInt32.toUInt16.toUInt32.toInt32)] rfl <| oa 531 X552 at_529 rfl rfl <| oi 533 X552 at_531 rfl rfl <| oc 534 (v := 2) X552 at_533 rfl (by decide) <| o_iadd 535 (v := 3) X552 at_534 rfl (by decide) ?_
            have f553 := f547.k0 K552
            refine oC 536 (v := (.int xi1_474)) X552 f553 ⟨by decide, by decide⟩ rfl at_535 rfl <| oN 539 X552 at_536 rfl (teq (own_ch255 q475)).2 <| oc 540 (v := 1) X552 at_539 rfl (by decide) <| og 544 X552 at_540 (by decide) <| oS 546 (l' := #[ii p1, ii p2, ii p3, ii p4, ii p5, ii 4, rr b455, rr b487, ii 0, ii 1, rr xa1_530, ii 3, ii 1]) X552 at_544 rfl rfl <| oi 548 X552 at_546 rfl rfl <| oc 549 (v := 3) X552 at_548 rfl (by decide) <| oN 552 X552 at_549 rfl (flt (by decide)).1 <| oi 554 X552 at_552 rfl rfl <| on 557 X552 at_554 rfl ((if0 _ _).trans (feq (by decide)).1) <| oa 559 X552 at_557 rfl rfl <| oc 560 (v := 2) X552 at_559 rfl (by decide) ?_
            have f554 := f548.keep K552
            have f555 := f549.k0 K552
            have f556 := f550.k0 K552
            have f557 := f551.k0 K552
            refine mV 563 0 X552 f554 (rm_au187 G f554 f555 f556 f557) (u29 G) all0 at_560 rfl rfl rfl lr (by decide) all0 ?_
            rintro _ _ _ _ X558 rfl K558 _ _
            refine sk [.int (((xi1_481.toInt8.toInt32) &&& (255 : Int32)).toUInt32.toUInt16.toUInt32.toInt32)] rfl <| oa 565 X558 at_563 rfl rfl <| oi 567 X558 at_565 rfl rfl <| oc 568 (v := 3) X558 at_567 rfl (by decide) <| o_iadd 569 (v := 4) X558 at_568 rfl (by decide) ?_
            have f559 := f553.k0 K558
            refine oC 570 (v := (.int xi1_481)) X558 f559 ⟨by decide, by decide⟩ rfl at_569 rfl <| oN 573 X558 at_570 rfl (teq (own_ch255 q482)).2 <| oc 574 (v := 1) X558 at_573 rfl (by decide) <| og 578 X558 at_574 (by decide) <| oS 580 (l' := #[ii p1, ii p2, ii p3, ii p4, ii p5, ii 4, rr b455, rr b487, ii 0, ii 1, rr xa1_530, ii 3, ii 1]) X558 at_578 rfl rfl <| oi 582 X558 at_580 rfl rfl ?_
            exact o_nret (y := (1 : Int32)) (t := .boolean) X558 at_582 rfl (by decide) (by simp) (by decide) (by decide) (fun _ CC => rfl)
          · show Go _ _ _ _ (State.setTop _ (mkF _ 426 #[ii p1, ii p2, ii p3, ii p4, ii p5, ii 4, rr b455, rr b487, ii 0, ii 2, uu, uu, uu] []))
            subst hj526_0
            have V560 := q521.as [.int 47, .int (xi1_460.toInt8.toInt32), .int 46, .int (xi1_474.toInt8.toInt32), .int (xi1_481.toInt8.toInt32)] rfl
            refine oa 428 X515 at_426 rfl rfl <| mS 431 0 X515 (rm_au191 G q518 q519 q520 V560 (own_bne (by decide) q461 hj525_0) (own_bne (by decide) q475 hj526_1) (own_bne (by decide) q475 hj525_2) (own_bne (by decide) q482 hj526_2) (own_bne (by decide) q482 hj525_3) (by decide) (by decide) (by decide)) (u19 G) all0 at_428 rfl rfl rfl lr (by decide) all0 ?_
            rintro _ _ _ _ X561 ⟨xa1_562, _, _, rfl, q565, q566, q567, _, q569, _, _, _⟩ K561 _ _
            refine sk [.ref xa1_562] rfl <| oU 433 (l' := #[ii p1, ii p2, ii p3, ii p4, ii p5, ii 4, rr b455, rr b487, ii 0, ii 2, rr xa1_562, uu, uu]) X561 at_431 rfl rfl rfl <| oi 435 X561 at_433 rfl rfl <| oy 449 X561 at_435 (by decide) ((if0 _ _).trans (flt (by decide)).2.1) <| oa 451 X561 at_449 rfl rfl <| ifnonnullYesJ 456 X561 at_451 (by decide) <| oi 458 X561 at_456 rfl rfl <| oi 460 X561 at_458 rfl rfl <| o_isub 461 (v := 2) X561 at_460 rfl (by decide) <| oS 463 (l' := #[ii p1, ii p2, ii p3, ii p4, ii p5, ii 4, rr b455, rr b487, ii 0, ii 2, rr xa1_562, ii 2, uu]) X561 at_461 rfl rfl <| oa 465 X561 at_463 rfl rfl <| mV 468 0 X561 q565 (rm_au28 G q565 q566 q567 q569) (u25 G) all0 at_465 rfl rfl rfl lr (by decide) all0 ?_
            rintro _ _ _ _ X573 rfl K573 _ _
            refine sk [.int 2] rfl <| oi 470 X573 at_468 rfl rfl <| oY 475 X573 at_470 (by decide) (teq (by decide)).1 <| oc 476 (v := 1) X573 at_475 rfl (by decide) <| oS 478 (l' := #[ii p1, ii p2, ii p3, ii p4, ii p5, ii 4, rr b455, rr b487, ii 0, ii 2, rr xa1_562, ii 2, ii 1]) X573 at_476 rfl rfl <| oi 480 X573 at_478 rfl rfl <| oc 481 (v := 1) X573 at_480 rfl (by decide) <| oN 484 X573 at_481 rfl (flt (by decide)).1 <| oi 486 X573 at_484 rfl rfl <| on 489 X573 at_486 rfl ((if0 _ _).trans (feq (by decide)).1) <| oa 491 X573 at_489 rfl rfl <| oc 492 (v := 0) X573 at_491 rfl (by decide) ?_
            have f574 := q565.keep K573
            have f575 := q566.k0 K573
            have f576 := q567.k0 K573
            have f577 := q569.k0 K573
            refine mV 495 0 X573 f574 (rm_au122 G f574 f575 f576 f577) (u29 G) all0 at_492 rfl rfl rfl lr (by decide) all0 ?_
            rintro _ _ _ _ X578 rfl K578 _ _
            refine sk [.int (((xi1_474.toInt8.toInt32) &&& (255 : Int32)).toUInt32.toUInt16.toUInt32.toInt32)] rfl <| oa 497 X578 at_495 rfl rfl <| oi 499 X578 at_497 rfl rfl <| oc 500 (v := 1) X578 at_499 rfl (by decide) <| o_iadd 501 (v := 3) X578 at_500 rfl (by decide) ?_
            have f579 := ((((f507.oth W508 (by omega)).k1 K515 (by omega)).k0 K561).k0 K573).k0 K578
            refine oC 502 (v := (.int xi1_474)) X578 f579 ⟨by decide, by decide⟩ rfl at_501 rfl <| oN 505 X578 at_502 rfl (teq (own_ch255 q475)).2 <| oc 506 (v := 1) X578 at_505 rfl (by decide) <| og 510 X578 at_506 (by decide) <| oS 512 (l' := #[ii p1, ii p2, ii p3, ii p4, ii p5, ii 4, rr b455, rr b487, ii 0, ii 2, rr xa1_562, ii 2, ii 1]) X578 at_510 rfl rfl <| oi 514 X578 at_512 rfl rfl <| oc 515 (v := 2) X578 at_514 rfl (by decide) <| oN 518 X578 at_515 rfl (flt (by decide)).1 <| oi 520 X578 at_518 rfl rfl <| on 523 X578 at_520 rfl ((if0 _ _).trans (feq (by decide)).1) <| oa 525 X578 at_523 rfl rfl <| oc 526 (v := 1) X578 at_525 rfl (by decide) ?_
            have f580 := f574.keep K578
            have f581 := f575.k0 K578
            have f582 := f576.k0 K578
            have f583 := f577.k0 K578
            refine mV 529 0 X578 f580 (rm_au124 G f580 f581 f582 f583) (u29 G) all0 at_526 rfl rfl rfl lr (by decide) all0 ?_
            rintro _ _ _ _ X584 rfl K584 _ _
            refine sk [.int (((xi1_481.toInt8.toInt32) &&& (255 : Int32)).toUInt32.toUInt16.toUInt32.toInt32)] rfl <| oa 531 X584 at_529 rfl rfl <| oi 533 X584 at_531 rfl rfl <| oc 534 (v := 2) X584 at_533 rfl (by decide) <| o_iadd 535 (v := 4) X584 at_534 rfl (by decide) ?_
            have f585 := f579.k0 K584
            refine oC 536 (v := (.int xi1_481)) X584 f585 ⟨by decide, by decide⟩ rfl at_535 rfl <| oN 539 X584 at_536 rfl (teq (own_ch255 q482)).2 <| oc 540 (v := 1) X584 at_539 rfl (by decide) <| og 544 X584 at_540 (by decide) <| oS 546 (l' := #[ii p1, ii p2, ii p3, ii p4, ii p5, ii 4, rr b455, rr b487, ii 0, ii 2, rr xa1_562, ii 2, ii 1]) X584 at_544 rfl rfl <| oi 548 X584 at_546 rfl rfl <| oc 549 (v := 3) X584 at_548 rfl (by decide) <| oY 580 X584 at_549 (by decide) (tlt (by decide)).1 <| oi 582 X584 at_580 rfl rfl ?_
            exact o_nret (y := (1 : Int32)) (t := .boolean) X584 at_582 rfl (by decide) (by simp) (by decide) (by decide) (fun _ CC => rfl)
          · show Go _ _ _ _ (State.setTop _ (mkF _ 426 #[ii p1, ii p2, ii p3, ii p4, ii p5, ii 4, rr b455, rr b487, ii 0, ii 3, uu, uu, uu] []))
            subst hj526_0
            have V586 := q521.as [.int 47, .int (xi1_460.toInt8.toInt32), .int (xi1_467.toInt8.toInt32), .int 46, .int (xi1_481.toInt8.toInt32)] rfl
            refine oa 428 X515 at_426 rfl rfl <| mS 431 0 X515 (rm_au195 G q518 q519 q520 V586 (own_bne (by decide) q461 hj525_0) (own_bne (by decide) q468 hj525_1) (own_bne (by decide) q482 hj526_1) (own_bne (by decide) q482 hj525_3) (by decide) (by decide) (by decide)) (u19 G) all0 at_428 rfl rfl rfl lr (by decide) all0 ?_
            rintro _ _ _ _ X587 ⟨xa1_588, _, _, rfl, q591, q592, q593, _, q595, _, _, _⟩ K587 _ _
            refine sk [.ref xa1_588] rfl <| oU 433 (l' := #[ii p1, ii p2, ii p3, ii p4, ii p5, ii 4, rr b455, rr b487, ii 0, ii 3, rr xa1_588, uu, uu]) X587 at_431 rfl rfl rfl <| oi 435 X587 at_433 rfl rfl <| oy 449 X587 at_435 (by decide) ((if0 _ _).trans (flt (by decide)).2.1) <| oa 451 X587 at_449 rfl rfl <| ifnonnullYesJ 456 X587 at_451 (by decide) <| oi 458 X587 at_456 rfl rfl <| oi 460 X587 at_458 rfl rfl <| o_isub 461 (v := 1) X587 at_460 rfl (by decide) <| oS 463 (l' := #[ii p1, ii p2, ii p3, ii p4, ii p5, ii 4, rr b455, rr b487, ii 0, ii 3, rr xa1_588, ii 1, uu]) X587 at_461 rfl rfl <| oa 465 X587 at_463 rfl rfl <| mV 468 0 X587 q591 (rm_au6 G q591 q592 q593 q595) (u25 G) all0 at_465 rfl rfl rfl lr (by decide) all0 ?_
            rintro _ _ _ _ X599 rfl K599 _ _
            refine sk [.int 1] rfl <| oi 470 X599 at_468 rfl rfl <| oY 475 X599 at_470 (by decide) (teq (by decide)).1 <| oc 476 (v := 1) X599 at_475 rfl (by decide) <| oS 478 (l' := #[ii p1, ii p2, ii p3, ii p4, ii p5, ii 4, rr b455, rr b487, ii 0, ii 3, rr xa1_588, ii 1, ii 1]) X599 at_476 rfl rfl <| oi 480 X599 at_478 rfl rfl <| oc 481 (v := 1) X599 at_480 rfl (by decide) <| oN 484 X599 at_481 rfl (flt (by decide)).1 <| oi 486 X599 at_484 rfl rfl <| on 489 X599 at_486 rfl ((if0 _ _).trans (feq (by decide)).1) <| oa 491 X599 at_489 rfl rfl <| oc 492 (v := 0) X599 at_491 rfl (by decide) ?_
            have f600 := q591.keep K599
            have f601 := q592.k0 K599
            have f602 := q593.k0 K599
            have f603 := q595.k0 K599
            refine mV 495 0 X599 f600 (rm_au78 G f600 f601 f602 f603) (u29 G) all0 at_492 rfl rfl rfl lr (by decide) all0 ?_
            rintro _ _ _ _ X604 rfl K604 _ _
            refine sk [.int (((xi1_481.toInt8.toInt32) &&& (255 : Int32)).toUInt32.toUInt16.toUInt32.toInt32)] rfl <| oa 497 X604 at_495 rfl rfl <| oi 499 X604 at_497 rfl rfl <| oc 500 (v := 1) X604 at_499 rfl (by decide) <| o_iadd 501 (v := 4) X604 at_500 rfl (by decide) ?_
            have f605 := ((((f507.oth W508 (by omega)).k1 K515 (by omega)).k0 K587).k0 K599).k0 K604
            refine oC 502 (v := (.int xi1_481)) X604 f605 ⟨by decide, by decide⟩ rfl at_501 rfl <| oN 505 X604 at_502 rfl (teq (own_ch255 q482)).2 <| oc 506 (v := 1) X604 at_505 rfl (by decide) <| og 510 X604 at_506 (by decide) <| oS 512 (l' := #[ii p1, ii p2, ii p3, ii p4, ii p5, ii 4, rr b455, rr b487, ii 0, ii 3, rr xa1_588, ii 1, ii 1]) X604 at_510 rfl rfl <| oi 514 X604 at_512 rfl rfl <| oc 515 (v := 2) X604 at_514 rfl (by decide) <| oY 546 X604 at_515 (by decide) (tlt (by decide)).1 <| oi 548 X604 at_546 rfl rfl <| oc 549 (v := 3) X604 at_548 rfl (by decide) <| oY 580 X604 at_549 (by decide) (tlt (by decide)).1 <| oi 582 X604 at_580 rfl rfl ?_
            exact o_nret (y := (1 : Int32)) (t := .boolean) X604 at_582 rfl (by decide) (by simp) (by decide) (by decide) (fun _ CC => rfl)
          · show Go _ _ _ _ (State.setTop _ (mkF _ 426 #[ii p1, ii p2, ii p3, ii p4, ii p5, ii 4, rr b455, rr b487, ii 0, ii 4, uu, uu, uu] []))
            subst hj526_0
            have V606 := q521.as [.int 47, .int (xi1_460.toInt8.toInt32), .int (xi1_467.toInt8.toInt32), .int (xi1_474.toInt8.toInt32), .int 46] rfl
            refine oa 428 X515 at_426 rfl rfl <| mS 431 0 X515 (rm_au199 G q518 q519 q520 V606 (own_bne (by decide) q461 hj525_0) (own_bne (by decide) q468 hj525_1) (own_bne (by decide) q475 hj525_2) (by decide) (by decide) (by decide)) (u19 G) all0 at_428 rfl rfl rfl lr (by decide) all0 ?_
            rintro _ _ _ _ X607 ⟨xa1_608, _, _, rfl, q611, q612, q613, q614, _⟩ _ _ _
            refine sk [.ref xa1_608] rfl <| oU 433 (l' := #[ii p1, ii p2, ii p3, ii p4, ii p5, ii 4, rr b455, rr b487, ii 0, ii 4, rr xa1_608, uu, uu]) X607 at_431 rfl rfl rfl <| oi 435 X607 at_433 rfl rfl <| oy 449 X607 at_435 (by decide) ((if0 _ _).trans (flt (by decide)).2.1) <| oa 451 X607 at_449 rfl rfl <| ifnonnullYesJ 456 X607 at_451 (by decide) <| oi 458 X607 at_456 rfl rfl <| oi 460 X607 at_458 rfl rfl <| o_isub 461 (v := 0) X607 at_460 rfl (by decide) <| oS 463 (l' := #[ii p1, ii p2, ii p3, ii p4, ii p5, ii 4, rr b455, rr b487, ii 0, ii 4, rr xa1_608, ii 0, uu]) X607 at_461 rfl rfl <| oa 465 X607 at_463 rfl rfl <| mV 468 0 X607 q611 (rm_au18 G q611 q612 q613 q614) (u25 G) all0 at_465 rfl rfl rfl lr (by decide) all0 ?_
            rintro _ _ _ _ X616 rfl _ _ _
            refine sk [i0] rfl <| oi 470 X616 at_468 rfl rfl <| oY 475 X616 at_470 (by decide) (teq (by decide)).1 <| oc 476 (v := 1) X616 at_475 rfl (by decide) <| oS 478 (l' := #[ii p1, ii p2, ii p3, ii p4, ii p5, ii 4, rr b455, rr b487, ii 0, ii 4, rr xa1_608, ii 0, ii 1]) X616 at_476 rfl rfl <| oi 480 X616 at_478 rfl rfl <| oc 481 (v := 1) X616 at_480 rfl (by decide) <| oY 512 X616 at_481 (by decide) (tlt (by decide)).1 <| oi 514 X616 at_512 rfl rfl <| oc 515 (v := 2) X616 at_514 rfl (by decide) <| oY 546 X616 at_515 (by decide) (tlt (by decide)).1 <| oi 548 X616 at_546 rfl rfl ?_
            refine oc 549 (v := 3) X616 at_548 rfl (by decide) <| oY 580 X616 at_549 (by decide) (tlt (by decide)).1 <| oi 582 X616 at_580 rfl rfl ?_
            exact o_nret (y := (1 : Int32)) (t := .boolean) X616 at_582 rfl (by decide) (by simp) (by decide) (by decide) (fun _ CC => rfl)
        · intro J2
          refine oc 328 (v := (-1)) X515 at_327 rfl (by decide) <| oS 330 (l' := #[ii p1, ii p2, ii p3, ii p4, ii p5, ii 4, rr b455, rr b487, ii 0, ii (-1), uu, uu, uu]) X515 at_328 rfl rfl <| oi 332 X515 at_330 rfl rfl <| oc 333 (v := 1) X515 at_332 rfl (by decide) <| oN 336 X515 at_333 rfl (flt (by decide)).1 <| oi 338 X515 at_336 rfl rfl <| oc 339 (v := 1) X515 at_338 rfl (by decide) <| oN 342 X515 at_339 rfl (tlt (by decide)).2.1 <| oa 344 X515 at_342 rfl rfl <| oc 345 (v := 1) X515 at_344 rfl (by decide) ?_
          have f617 := (f507.oth W508 (by omega)).k1 K515 (by omega)
          refine oC 346 (v := (.int xi1_460)) X515 f617 ⟨by decide, by decide⟩ rfl at_345 rfl <| ob 348 (v := 46) X515 at_346 rfl (by decide) ?_
          by_cases hc618 : xi1_460 = (46 : Int32)
          · refine oN 351 X515 at_348 rfl (teq hc618).2 <| oc 352 (v := 1) X515 at_351 rfl (by decide) <| oS 354 (l' := #[ii p1, ii p2, ii p3, ii p4, ii p5, ii 4, rr b455, rr b487, ii 0, ii 1, uu, uu, uu]) X515 at_352 rfl rfl <| oi 356 X515 at_354 rfl rfl <| oc 357 (v := 2) X515 at_356 rfl (by decide) <| oN 360 X515 at_357 rfl (flt (by decide)).1 <| oi 362 X515 at_360 rfl rfl <| oc 363 (v := 2) X515 at_362 rfl (by decide) <| oN 366 X515 at_363 rfl (tlt (by decide)).2.1 <| oa 368 X515 at_366 rfl rfl <| oc 369 (v := 2) X515 at_368 rfl (by decide) <| oC 370 (v := (.int xi1_467)) X515 f617 ⟨by decide, by decide⟩ rfl at_369 rfl ?_
            refine ob 372 (v := 46) X515 at_370 rfl (by decide) ?_
            by_cases hc619 : xi1_467 = (46 : Int32)
            · refine oN 375 X515 at_372 rfl (teq hc619).2 <| oc 376 (v := 2) X515 at_375 rfl (by decide) <| oS 378 (l' := #[ii p1, ii p2, ii p3, ii p4, ii p5, ii 4, rr b455, rr b487, ii 0, ii 2, uu, uu, uu]) X515 at_376 rfl rfl <| oi 380 X515 at_378 rfl rfl <| oc 381 (v := 3) X515 at_380 rfl (by decide) <| oN 384 X515 at_381 rfl (flt (by decide)).1 <| oi 386 X515 at_384 rfl rfl <| oc 387 (v := 3) X515 at_386 rfl (by decide) <| oN 390 X515 at_387 rfl (tlt (by decide)).2.1 <| oa 392 X515 at_390 rfl rfl <| oc 393 (v := 3) X515 at_392 rfl (by decide) <| oC 394 (v := (.int xi1_474)) X515 f617 ⟨by decide, by decide⟩ rfl at_393 rfl ?_
              refine ob 396 (v := 46) X515 at_394 rfl (by decide) ?_
              by_cases hc620 : xi1_474 = (46 : Int32)
              · refine oN 399 X515 at_396 rfl (teq hc620).2 <| oc 400 (v := 3) X515 at_399 rfl (by decide) <| oS 402 (l' := #[ii p1, ii p2, ii p3, ii p4, ii p5, ii 4, rr b455, rr b487, ii 0, ii 3, uu, uu, uu]) X515 at_400 rfl rfl <| oi 404 X515 at_402 rfl rfl <| oc 405 (v := 4) X515 at_404 rfl (by decide) <| oN 408 X515 at_405 rfl (flt (by decide)).1 <| oi 410 X515 at_408 rfl rfl <| oc 411 (v := 4) X515 at_410 rfl (by decide) <| oN 414 X515 at_411 rfl (tlt (by decide)).2.1 <| oa 416 X515 at_414 rfl rfl <| oc 417 (v := 4) X515 at_416 rfl (by decide) <| oC 418 (v := (.int xi1_481)) X515 f617 ⟨by decide, by decide⟩ rfl at_417 rfl ?_
                refine ob 420 (v := 46) X515 at_418 rfl (by decide) ?_
                by_cases hc621 : xi1_481 = (46 : Int32)
                · refine oN 423 X515 at_420 rfl (teq hc621).2 <| oc 424 (v := 4) X515 at_423 rfl (by decide) <| oS 426 (l' := #[ii p1, ii p2, ii p3, ii p4, ii p5, ii 4, rr b455, rr b487, ii 0, ii 4, uu, uu, uu]) X515 at_424 rfl rfl ?_
                  exact J2 4 (Or.inr (Or.inr (Or.inr (Or.inr (⟨rfl, hc621⟩)))))
                · refine oY 426 X515 at_420 (by decide) (feq hc621).2 ?_
                  exact J2 3 (Or.inr (Or.inr (Or.inr (Or.inl ⟨rfl, hc620, hc621⟩))))
              · refine oY 402 X515 at_396 (by decide) (feq hc620).2 <| oi 404 X515 at_402 rfl rfl <| oc 405 (v := 4) X515 at_404 rfl (by decide) <| oN 408 X515 at_405 rfl (flt (by decide)).1 <| oi 410 X515 at_408 rfl rfl <| oc 411 (v := 4) X515 at_410 rfl (by decide) <| oN 414 X515 at_411 rfl (tlt (by decide)).2.1 <| oa 416 X515 at_414 rfl rfl <| oc 417 (v := 4) X515 at_416 rfl (by decide) <| oC 418 (v := (.int xi1_481)) X515 f617 ⟨by decide, by decide⟩ rfl at_417 rfl <| ob 420 (v := 46) X515 at_418 rfl (by decide) ?_
                by_cases hc622 : xi1_481 = (46 : Int32)
                · refine oN 423 X515 at_420 rfl (teq hc622).2 <| oc 424 (v := 4) X515 at_423 rfl (by decide) <| oS 426 (l' := #[ii p1, ii p2, ii p3, ii p4, ii p5, ii 4, rr b455, rr b487, ii 0, ii 4, uu, uu, uu]) X515 at_424 rfl rfl ?_
                  exact J2 4 (Or.inr (Or.inr (Or.inr (Or.inr (⟨rfl, hc622⟩)))))
                · refine oY 426 X515 at_420 (by decide) (feq hc622).2 ?_
                  exact J2 2 (Or.inr (Or.inr (Or.inl ⟨rfl, hc619, hc620, hc622⟩)))
            · refine oY 378 X515 at_372 (by decide) (feq hc619).2 <| oi 380 X515 at_378 rfl rfl <| oc 381 (v := 3) X515 at_380 rfl (by decide) <| oN 384 X515 at_381 rfl (flt (by decide)).1 <| oi 386 X515 at_384 rfl rfl <| oc 387 (v := 3) X515 at_386 rfl (by decide) <| oN 390 X515 at_387 rfl (tlt (by decide)).2.1 <| oa 392 X515 at_390 rfl rfl <| oc 393 (v := 3) X515 at_392 rfl (by decide) <| oC 394 (v := (.int xi1_474)) X515 f617 ⟨by decide, by decide⟩ rfl at_393 rfl <| ob 396 (v := 46) X515 at_394 rfl (by decide) ?_
              by_cases hc623 : xi1_474 = (46 : Int32)
              · refine oN 399 X515 at_396 rfl (teq hc623).2 <| oc 400 (v := 3) X515 at_399 rfl (by decide) <| oS 402 (l' := #[ii p1, ii p2, ii p3, ii p4, ii p5, ii 4, rr b455, rr b487, ii 0, ii 3, uu, uu, uu]) X515 at_400 rfl rfl <| oi 404 X515 at_402 rfl rfl <| oc 405 (v := 4) X515 at_404 rfl (by decide) <| oN 408 X515 at_405 rfl (flt (by decide)).1 <| oi 410 X515 at_408 rfl rfl <| oc 411 (v := 4) X515 at_410 rfl (by decide) <| oN 414 X515 at_411 rfl (tlt (by decide)).2.1 <| oa 416 X515 at_414 rfl rfl <| oc 417 (v := 4) X515 at_416 rfl (by decide) <| oC 418 (v := (.int xi1_481)) X515 f617 ⟨by decide, by decide⟩ rfl at_417 rfl ?_
                refine ob 420 (v := 46) X515 at_418 rfl (by decide) ?_
                by_cases hc624 : xi1_481 = (46 : Int32)
                · refine oN 423 X515 at_420 rfl (teq hc624).2 <| oc 424 (v := 4) X515 at_423 rfl (by decide) <| oS 426 (l' := #[ii p1, ii p2, ii p3, ii p4, ii p5, ii 4, rr b455, rr b487, ii 0, ii 4, uu, uu, uu]) X515 at_424 rfl rfl ?_
                  exact J2 4 (Or.inr (Or.inr (Or.inr (Or.inr (⟨rfl, hc624⟩)))))
                · refine oY 426 X515 at_420 (by decide) (feq hc624).2 ?_
                  exact J2 3 (Or.inr (Or.inr (Or.inr (Or.inl ⟨rfl, hc623, hc624⟩))))
              · refine oY 402 X515 at_396 (by decide) (feq hc623).2 <| oi 404 X515 at_402 rfl rfl <| oc 405 (v := 4) X515 at_404 rfl (by decide) <| oN 408 X515 at_405 rfl (flt (by decide)).1 <| oi 410 X515 at_408 rfl rfl <| oc 411 (v := 4) X515 at_410 rfl (by decide) <| oN 414 X515 at_411 rfl (tlt (by decide)).2.1 <| oa 416 X515 at_414 rfl rfl <| oc 417 (v := 4) X515 at_416 rfl (by decide) <| oC 418 (v := (.int xi1_481)) X515 f617 ⟨by decide, by decide⟩ rfl at_417 rfl <| ob 420 (v := 46) X515 at_418 rfl (by decide) ?_
                by_cases hc625 : xi1_481 = (46 : Int32)
                · refine oN 423 X515 at_420 rfl (teq hc625).2 <| oc 424 (v := 4) X515 at_423 rfl (by decide) <| oS 426 (l' := #[ii p1, ii p2, ii p3, ii p4, ii p5, ii 4, rr b455, rr b487, ii 0, ii 4, uu, uu, uu]) X515 at_424 rfl rfl ?_
                  exact J2 4 (Or.inr (Or.inr (Or.inr (Or.inr (⟨rfl, hc625⟩)))))
                · refine oY 426 X515 at_420 (by decide) (feq hc625).2 ?_
                  exact J2 1 (Or.inr (Or.inl ⟨rfl, hc618, hc619, hc623, hc625⟩))
          · refine oY 354 X515 at_348 (by decide) (feq hc618).2 <| oi 356 X515 at_354 rfl rfl <| oc 357 (v := 2) X515 at_356 rfl (by decide) <| oN 360 X515 at_357 rfl (flt (by decide)).1 <| oi 362 X515 at_360 rfl rfl <| oc 363 (v := 2) X515 at_362 rfl (by decide) <| oN 366 X515 at_363 rfl (tlt (by decide)).2.1 <| oa 368 X515 at_366 rfl rfl <| oc 369 (v := 2) X515 at_368 rfl (by decide) <| oC 370 (v := (.int xi1_467)) X515 f617 ⟨by decide, by decide⟩ rfl at_369 rfl <| ob 372 (v := 46) X515 at_370 rfl (by decide) ?_
            by_cases hc626 : xi1_467 = (46 : Int32)
            · refine oN 375 X515 at_372 rfl (teq hc626).2 <| oc 376 (v := 2) X515 at_375 rfl (by decide) <| oS 378 (l' := #[ii p1, ii p2, ii p3, ii p4, ii p5, ii 4, rr b455, rr b487, ii 0, ii 2, uu, uu, uu]) X515 at_376 rfl rfl <| oi 380 X515 at_378 rfl rfl <| oc 381 (v := 3) X515 at_380 rfl (by decide) <| oN 384 X515 at_381 rfl (flt (by decide)).1 <| oi 386 X515 at_384 rfl rfl <| oc 387 (v := 3) X515 at_386 rfl (by decide) <| oN 390 X515 at_387 rfl (tlt (by decide)).2.1 <| oa 392 X515 at_390 rfl rfl <| oc 393 (v := 3) X515 at_392 rfl (by decide) <| oC 394 (v := (.int xi1_474)) X515 f617 ⟨by decide, by decide⟩ rfl at_393 rfl ?_
              refine ob 396 (v := 46) X515 at_394 rfl (by decide) ?_
              by_cases hc627 : xi1_474 = (46 : Int32)
              · refine oN 399 X515 at_396 rfl (teq hc627).2 <| oc 400 (v := 3) X515 at_399 rfl (by decide) <| oS 402 (l' := #[ii p1, ii p2, ii p3, ii p4, ii p5, ii 4, rr b455, rr b487, ii 0, ii 3, uu, uu, uu]) X515 at_400 rfl rfl <| oi 404 X515 at_402 rfl rfl <| oc 405 (v := 4) X515 at_404 rfl (by decide) <| oN 408 X515 at_405 rfl (flt (by decide)).1 <| oi 410 X515 at_408 rfl rfl <| oc 411 (v := 4) X515 at_410 rfl (by decide) <| oN 414 X515 at_411 rfl (tlt (by decide)).2.1 <| oa 416 X515 at_414 rfl rfl <| oc 417 (v := 4) X515 at_416 rfl (by decide) <| oC 418 (v := (.int xi1_481)) X515 f617 ⟨by decide, by decide⟩ rfl at_417 rfl ?_
                refine ob 420 (v := 46) X515 at_418 rfl (by decide) ?_
                by_cases hc628 : xi1_481 = (46 : Int32)
                · refine oN 423 X515 at_420 rfl (teq hc628).2 <| oc 424 (v := 4) X515 at_423 rfl (by decide) <| oS 426 (l' := #[ii p1, ii p2, ii p3, ii p4, ii p5, ii 4, rr b455, rr b487, ii 0, ii 4, uu, uu, uu]) X515 at_424 rfl rfl ?_
                  exact J2 4 (Or.inr (Or.inr (Or.inr (Or.inr (⟨rfl, hc628⟩)))))
                · refine oY 426 X515 at_420 (by decide) (feq hc628).2 ?_
                  exact J2 3 (Or.inr (Or.inr (Or.inr (Or.inl ⟨rfl, hc627, hc628⟩))))
              · refine oY 402 X515 at_396 (by decide) (feq hc627).2 <| oi 404 X515 at_402 rfl rfl <| oc 405 (v := 4) X515 at_404 rfl (by decide) <| oN 408 X515 at_405 rfl (flt (by decide)).1 <| oi 410 X515 at_408 rfl rfl <| oc 411 (v := 4) X515 at_410 rfl (by decide) <| oN 414 X515 at_411 rfl (tlt (by decide)).2.1 <| oa 416 X515 at_414 rfl rfl <| oc 417 (v := 4) X515 at_416 rfl (by decide) <| oC 418 (v := (.int xi1_481)) X515 f617 ⟨by decide, by decide⟩ rfl at_417 rfl <| ob 420 (v := 46) X515 at_418 rfl (by decide) ?_
                by_cases hc629 : xi1_481 = (46 : Int32)
                · refine oN 423 X515 at_420 rfl (teq hc629).2 <| oc 424 (v := 4) X515 at_423 rfl (by decide) <| oS 426 (l' := #[ii p1, ii p2, ii p3, ii p4, ii p5, ii 4, rr b455, rr b487, ii 0, ii 4, uu, uu, uu]) X515 at_424 rfl rfl ?_
                  exact J2 4 (Or.inr (Or.inr (Or.inr (Or.inr (⟨rfl, hc629⟩)))))
                · refine oY 426 X515 at_420 (by decide) (feq hc629).2 ?_
                  exact J2 2 (Or.inr (Or.inr (Or.inl ⟨rfl, hc626, hc627, hc629⟩)))
            · refine oY 378 X515 at_372 (by decide) (feq hc626).2 <| oi 380 X515 at_378 rfl rfl <| oc 381 (v := 3) X515 at_380 rfl (by decide) <| oN 384 X515 at_381 rfl (flt (by decide)).1 <| oi 386 X515 at_384 rfl rfl <| oc 387 (v := 3) X515 at_386 rfl (by decide) <| oN 390 X515 at_387 rfl (tlt (by decide)).2.1 <| oa 392 X515 at_390 rfl rfl <| oc 393 (v := 3) X515 at_392 rfl (by decide) <| oC 394 (v := (.int xi1_474)) X515 f617 ⟨by decide, by decide⟩ rfl at_393 rfl <| ob 396 (v := 46) X515 at_394 rfl (by decide) ?_
              by_cases hc630 : xi1_474 = (46 : Int32)
              · refine oN 399 X515 at_396 rfl (teq hc630).2 <| oc 400 (v := 3) X515 at_399 rfl (by decide) <| oS 402 (l' := #[ii p1, ii p2, ii p3, ii p4, ii p5, ii 4, rr b455, rr b487, ii 0, ii 3, uu, uu, uu]) X515 at_400 rfl rfl <| oi 404 X515 at_402 rfl rfl <| oc 405 (v := 4) X515 at_404 rfl (by decide) <| oN 408 X515 at_405 rfl (flt (by decide)).1 <| oi 410 X515 at_408 rfl rfl <| oc 411 (v := 4) X515 at_410 rfl (by decide) <| oN 414 X515 at_411 rfl (tlt (by decide)).2.1 <| oa 416 X515 at_414 rfl rfl <| oc 417 (v := 4) X515 at_416 rfl (by decide) <| oC 418 (v := (.int xi1_481)) X515 f617 ⟨by decide, by decide⟩ rfl at_417 rfl ?_
                refine ob 420 (v := 46) X515 at_418 rfl (by decide) ?_
                by_cases hc631 : xi1_481 = (46 : Int32)
                · refine oN 423 X515 at_420 rfl (teq hc631).2 <| oc 424 (v := 4) X515 at_423 rfl (by decide) <| oS 426 (l' := #[ii p1, ii p2, ii p3, ii p4, ii p5, ii 4, rr b455, rr b487, ii 0, ii 4, uu, uu, uu]) X515 at_424 rfl rfl ?_
                  exact J2 4 (Or.inr (Or.inr (Or.inr (Or.inr (⟨rfl, hc631⟩)))))
                · refine oY 426 X515 at_420 (by decide) (feq hc631).2 ?_
                  exact J2 3 (Or.inr (Or.inr (Or.inr (Or.inl ⟨rfl, hc630, hc631⟩))))
              · refine oY 402 X515 at_396 (by decide) (feq hc630).2 <| oi 404 X515 at_402 rfl rfl <| oc 405 (v := 4) X515 at_404 rfl (by decide) <| oN 408 X515 at_405 rfl (flt (by decide)).1 <| oi 410 X515 at_408 rfl rfl <| oc 411 (v := 4) X515 at_410 rfl (by decide) <| oN 414 X515 at_411 rfl (tlt (by decide)).2.1 <| oa 416 X515 at_414 rfl rfl <| oc 417 (v := 4) X515 at_416 rfl (by decide) <| oC 418 (v := (.int xi1_481)) X515 f617 ⟨by decide, by decide⟩ rfl at_417 rfl <| ob 420 (v := 46) X515 at_418 rfl (by decide) ?_
                by_cases hc632 : xi1_481 = (46 : Int32)
                · refine oN 423 X515 at_420 rfl (teq hc632).2 <| oc 424 (v := 4) X515 at_423 rfl (by decide) <| oS 426 (l' := #[ii p1, ii p2, ii p3, ii p4, ii p5, ii 4, rr b455, rr b487, ii 0, ii 4, uu, uu, uu]) X515 at_424 rfl rfl ?_
                  exact J2 4 (Or.inr (Or.inr (Or.inr (Or.inr (⟨rfl, hc632⟩)))))
                · refine oY 426 X515 at_420 (by decide) (feq hc632).2 ?_
                  exact J2 (-1) (Or.inl ⟨rfl, hc618, hc626, hc630, hc632⟩)
      · show Go _ _ _ _ (State.setTop _ (mkF _ 327 #[ii p1, ii p2, ii p3, ii p4, ii p5, ii 4, rr b455, rr b487, ii 1, uu, uu, uu, uu] []))
        refine jn 426 (fun a => (a = (-1 : Int32) ∧ ¬ xi1_467 = (46 : Int32) ∧ ¬ xi1_474 = (46 : Int32) ∧ ¬ xi1_481 = (46 : Int32)) ∨ (a = (2 : Int32) ∧ xi1_467 = (46 : Int32) ∧ ¬ xi1_474 = (46 : Int32) ∧ ¬ xi1_481 = (46 : Int32)) ∨ (a = (3 : Int32) ∧ xi1_474 = (46 : Int32) ∧ ¬ xi1_481 = (46 : Int32)) ∨ (a = (4 : Int32) ∧ xi1_481 = (46 : Int32))) (fun a => #[ii p1, ii p2, ii p3, ii p4, ii p5, ii 4, rr b455, rr b487, ii 1, ii a, uu, uu, uu]) ?_ ?_
        · rintro _ (⟨rfl, hj633_0, hj633_1, hj633_2⟩ | ⟨rfl, hj633_0, hj633_1, hj633_2⟩ | ⟨rfl, hj633_0, hj633_1⟩ | ⟨rfl, hj633_0⟩)
          · show Go _ _ _ _ (State.setTop _ (mkF _ 426 #[ii p1, ii p2, ii p3, ii p4, ii p5, ii 4, rr b455, rr b487, ii 1, ii (-1), uu, uu, uu] []))
            subst hj525_0
            have V634 := q521.as [.int 47, .int 47, .int (xi1_467.toInt8.toInt32), .int (xi1_474.toInt8.toInt32), .int (xi1_481.toInt8.toInt32)] rfl
            refine oa 428 X515 at_426 rfl rfl <| mS 431 0 X515 (rm_au208 G q518 q519 q520 V634 (own_bne (by decide) q468 hj633_0) (own_bne (by decide) q468 hj525_1) (own_bne (by decide) q475 hj633_1) (own_bne (by decide) q475 hj525_2) (own_bne (by decide) q482 hj633_2) (own_bne (by decide) q482 hj525_3) (by decide)) (u19 G) all0 at_428 rfl rfl rfl lr (by decide) all0 ?_
            rintro _ _ _ _ X635 rfl _ _ _
            refine sk [.null] rfl <| oU 433 (l' := #[ii p1, ii p2, ii p3, ii p4, ii p5, ii 4, rr b455, rr b487, ii 1, ii (-1), .val .null, uu, uu]) X635 at_431 rfl rfl rfl <| oi 435 X635 at_433 rfl rfl <| on 438 X635 at_435 rfl ((if0 _ _).trans (tlt (by decide)).2.1) <| o_aload 440 X635 at_438 rfl rfl rfl <| o_ifnonnullNo 443 X635 at_440 rfl <| oc 444 (v := 1) X635 at_443 rfl (by decide) <| og 448 X635 at_444 (by decide) ?_
            exact o_nret (y := (1 : Int32)) (t := .boolean) X635 at_448 rfl (by decide) (by simp) (by decide) (by decide) (fun _ CC => rfl)
          · show Go _ _ _ _ (State.setTop _ (mkF _ 426 #[ii p1, ii p2, ii p3, ii p4, ii p5, ii 4, rr b455, rr b487, ii 1, ii 2, uu, uu, uu] []))
            subst hj525_0
            subst hj633_0
            have V636 := q521.as [.int 47, .int 47, .int 46, .int (xi1_474.toInt8.toInt32), .int (xi1_481.toInt8.toInt32)] rfl
            refine oa 428 X515 at_426 rfl rfl <| mS 431 0 X515 (rm_au209 G q518 q519 q520 V636 (own_bne (by decide) q475 hj633_1) (own_bne (by decide) q475 hj525_2) (own_bne (by decide) q482 hj633_2) (own_bne (by decide) q482 hj525_3) (by decide) (by decide) (by decide)) (u19 G) all0 at_428 rfl rfl rfl lr (by decide) all0 ?_
            rintro _ _ _ _ X637 ⟨xa1_638, _, _, rfl, q641, q642, q643, _, q645, _, _, _⟩ K637 _ _
            refine sk [.ref xa1_638] rfl <| oU 433 (l' := #[ii p1, ii p2, ii p3, ii p4, ii p5, ii 4, rr b455, rr b487, ii 1, ii 2, rr xa1_638, uu, uu]) X637 at_431 rfl rfl rfl <| oi 435 X637 at_433 rfl rfl <| oy 449 X637 at_435 (by decide) ((if0 _ _).trans (flt (by decide)).2.1) <| oa 451 X637 at_449 rfl rfl <| ifnonnullYesJ 456 X637 at_451 (by decide) <| oi 458 X637 at_456 rfl rfl <| oi 460 X637 at_458 rfl rfl <| o_isub 461 (v := 2) X637 at_460 rfl (by decide) <| oS 463 (l' := #[ii p1, ii p2, ii p3, ii p4, ii p5, ii 4, rr b455, rr b487, ii 1, ii 2, rr xa1_638, ii 2, uu]) X637 at_461 rfl rfl <| oa 465 X637 at_463 rfl rfl <| mV 468 0 X637 q641 (rm_au28 G q641 q642 q643 q645) (u25 G) all0 at_465 rfl rfl rfl lr (by decide) all0 ?_
            rintro _ _ _ _ X649 rfl K649 _ _
            refine sk [.int 2] rfl <| oi 470 X649 at_468 rfl rfl <| oY 475 X649 at_470 (by decide) (teq (by decide)).1 <| oc 476 (v := 1) X649 at_475 rfl (by decide) <| oS 478 (l' := #[ii p1, ii p2, ii p3, ii p4, ii p5, ii 4, rr b455, rr b487, ii 1, ii 2, rr xa1_638, ii 2, ii 1]) X649 at_476 rfl rfl <| oi 480 X649 at_478 rfl rfl <| oc 481 (v := 1) X649 at_480 rfl (by decide) <| oN 484 X649 at_481 rfl (flt (by decide)).1 <| oi 486 X649 at_484 rfl rfl <| on 489 X649 at_486 rfl ((if0 _ _).trans (feq (by decide)).1) <| oa 491 X649 at_489 rfl rfl <| oc 492 (v := 0) X649 at_491 rfl (by decide) ?_
            have f650 := q641.keep K649
            have f651 := q642.k0 K649
            have f652 := q643.k0 K649
            have f653 := q645.k0 K649
            refine mV 495 0 X649 f650 (rm_au122 G f650 f651 f652 f653) (u29 G) all0 at_492 rfl rfl rfl lr (by decide) all0 ?_
            rintro _ _ _ _ X654 rfl K654 _ _
            refine sk [.int (((xi1_474.toInt8.toInt32) &&& (255 : Int32)).toUInt32.toUInt16.toUInt32.toInt32)] rfl <| oa 497 X654 at_495 rfl rfl <| oi 499 X654 at_497 rfl rfl <| oc 500 (v := 1) X654 at_499 rfl (by decide) <| o_iadd 501 (v := 3) X654 at_500 rfl (by decide) ?_
            have f655 := ((((f507.oth W508 (by omega)).k1 K515 (by omega)).k0 K637).k0 K649).k0 K654
            refine oC 502 (v := (.int xi1_474)) X654 f655 ⟨by decide, by decide⟩ rfl at_501 rfl <| oN 505 X654 at_502 rfl (teq (own_ch255 q475)).2 <| oc 506 (v := 1) X654 at_505 rfl (by decide) <| og 510 X654 at_506 (by decide) <| oS 512 (l' := #[ii p1, ii p2, ii p3, ii p4, ii p5, ii 4, rr b455, rr b487, ii 1, ii 2, rr xa1_638, ii 2, ii 1]) X654 at_510 rfl rfl <| oi 514 X654 at_512 rfl rfl <| oc 515 (v := 2) X654 at_514 rfl (by decide) <| oN 518 X654 at_515 rfl (flt (by decide)).1 <| oi 520 X654 at_518 rfl rfl <| on 523 X654 at_520 rfl ((if0 _ _).trans (feq (by decide)).1) <| oa 525 X654 at_523 rfl rfl <| oc 526 (v := 1) X654 at_525 rfl (by decide) ?_
            have f656 := f650.keep K654
            have f657 := f651.k0 K654
            have f658 := f652.k0 K654
            have f659 := f653.k0 K654
            refine mV 529 0 X654 f656 (rm_au124 G f656 f657 f658 f659) (u29 G) all0 at_526 rfl rfl rfl lr (by decide) all0 ?_
            rintro _ _ _ _ X660 rfl K660 _ _
            refine sk [.int (((xi1_481.toInt8.toInt32) &&& (255 : Int32)).toUInt32.toUInt16.toUInt32.toInt32)] rfl <| oa 531 X660 at_529 rfl rfl <| oi 533 X660 at_531 rfl rfl <| oc 534 (v := 2) X660 at_533 rfl (by decide) <| o_iadd 535 (v := 4) X660 at_534 rfl (by decide) ?_
            have f661 := f655.k0 K660
            refine oC 536 (v := (.int xi1_481)) X660 f661 ⟨by decide, by decide⟩ rfl at_535 rfl <| oN 539 X660 at_536 rfl (teq (own_ch255 q482)).2 <| oc 540 (v := 1) X660 at_539 rfl (by decide) <| og 544 X660 at_540 (by decide) <| oS 546 (l' := #[ii p1, ii p2, ii p3, ii p4, ii p5, ii 4, rr b455, rr b487, ii 1, ii 2, rr xa1_638, ii 2, ii 1]) X660 at_544 rfl rfl <| oi 548 X660 at_546 rfl rfl <| oc 549 (v := 3) X660 at_548 rfl (by decide) <| oY 580 X660 at_549 (by decide) (tlt (by decide)).1 <| oi 582 X660 at_580 rfl rfl ?_
            exact o_nret (y := (1 : Int32)) (t := .boolean) X660 at_582 rfl (by decide) (by simp) (by decide) (by decide) (fun _ CC => rfl)
          · show Go _ _ _ _ (State.setTop _ (mkF _ 426 #[ii p1, ii p2, ii p3, ii p4, ii p5, ii 4, rr b455, rr b487, ii 1, ii 3, uu, uu, uu] []))
            subst hj525_0
            subst hj633_0
            have V662 := q521.as [.int 47, .int 47, .int (xi1_467.toInt8.toInt32), .int 46, .int (xi1_481.toInt8.toInt32)] rfl
            refine oa 428 X515 at_426 rfl rfl <| mS 431 0 X515 (rm_au210 G q518 q519 q520 V662 (own_bne (by decide) q468 hj525_1) (own_bne (by decide) q482 hj633_1) (own_bne (by decide) q482 hj525_3) (by decide) (by decide) (by decide)) (u19 G) all0 at_428 rfl rfl rfl lr (by decide) all0 ?_
            rintro _ _ _ _ X663 ⟨xa1_664, _, _, rfl, q667, q668, q669, _, q671, _, _, _⟩ K663 _ _
            refine sk [.ref xa1_664] rfl <| oU 433 (l' := #[ii p1, ii p2, ii p3, ii p4, ii p5, ii 4, rr b455, rr b487, ii 1, ii 3, rr xa1_664, uu, uu]) X663 at_431 rfl rfl rfl <| oi 435 X663 at_433 rfl rfl <| oy 449 X663 at_435 (by decide) ((if0 _ _).trans (flt (by decide)).2.1) <| oa 451 X663 at_449 rfl rfl <| ifnonnullYesJ 456 X663 at_451 (by decide) <| oi 458 X663 at_456 rfl rfl <| oi 460 X663 at_458 rfl rfl <| o_isub 461 (v := 1) X663 at_460 rfl (by decide) <| oS 463 (l' := #[ii p1, ii p2, ii p3, ii p4, ii p5, ii 4, rr b455, rr b487, ii 1, ii 3, rr xa1_664, ii 1, uu]) X663 at_461 rfl rfl <| oa 465 X663 at_463 rfl rfl <| mV 468 0 X663 q667 (rm_au6 G q667 q668 q669 q671) (u25 G) all0 at_465 rfl rfl rfl lr (by decide) all0 ?_
            rintro _ _ _ _ X675 rfl K675 _ _
            refine sk [.int 1] rfl <| oi 470 X675 at_468 rfl rfl <| oY 475 X675 at_470 (by decide) (teq (by decide)).1 <| oc 476 (v := 1) X675 at_475 rfl (by decide) <| oS 478 (l' := #[ii p1, ii p2, ii p3, ii p4, ii p5, ii 4, rr b455, rr b487, ii 1, ii 3, rr xa1_664, ii 1, ii 1]) X675 at_476 rfl rfl <| oi 480 X675 at_478 rfl rfl <| oc 481 (v := 1) X675 at_480 rfl (by decide) <| oN 484 X675 at_481 rfl (flt (by decide)).1 <| oi 486 X675 at_484 rfl rfl <| on 489 X675 at_486 rfl ((if0 _ _).trans (feq (by decide)).1) <| oa 491 X675 at_489 rfl rfl <| oc 492 (v := 0) X675 at_491 rfl (by decide) ?_
            have f676 := q667.keep K675
            have f677 := q668.k0 K675
            have f678 := q669.k0 K675
            have f679 := q671.k0 K675
            refine mV 495 0 X675 f676 (rm_au78 G f676 f677 f678 f679) (u29 G) all0 at_492 rfl rfl rfl lr (by decide) all0 ?_
            rintro _ _ _ _ X680 rfl K680 _ _
            refine sk [.int (((xi1_481.toInt8.toInt32) &&& (255 : Int32)).toUInt32.toUInt16.toUInt32.toInt32)] rfl <| oa 497 X680 at_495 rfl rfl <| oi 499 X680 at_497 rfl rfl <| oc 500 (v := 1) X680 at_499 rfl (by decide) <| o_iadd 501 (v := 4) X680 at_500 rfl (by decide) ?_
            have f681 := ((((f507.oth W508 (by omega)).k1 K515 (by omega)).k0 K663).k0 K675).k0 K680
            refine oC 502 (v := (.int xi1_481)) X680 f681 ⟨by decide, by decide⟩ rfl at_501 rfl <| oN 505 X680 at_502 rfl (teq (own_ch255 q482)).2 <| oc 506 (v := 1) X680 at_505 rfl (by decide) <| og 510 X680 at_506 (by decide) <| oS 512 (l' := #[ii p1, ii p2, ii p3, ii p4, ii p5, ii 4, rr b455, rr b487, ii 1, ii 3, rr xa1_664, ii 1, ii 1]) X680 at_510 rfl rfl <| oi 514 X680 at_512 rfl rfl <| oc 515 (v := 2) X680 at_514 rfl (by decide) <| oY 546 X680 at_515 (by decide) (tlt (by decide)).1 <| oi 548 X680 at_546 rfl rfl <| oc 549 (v := 3) X680 at_548 rfl (by decide) <| oY 580 X680 at_549 (by decide) (tlt (by decide)).1 <| oi 582 X680 at_580 rfl rfl ?_
            exact o_nret (y := (1 : Int32)) (t := .boolean) X680 at_582 rfl (by decide) (by simp) (by decide) (by decide) (fun _ CC => rfl)
          · show Go _ _ _ _ (State.setTop _ (mkF _ 426 #[ii p1, ii p2, ii p3, ii p4, ii p5, ii 4, rr b455, rr b487, ii 1, ii 4, uu, uu, uu] []))
            subst hj525_0
            subst hj633_0
            have V682 := q521.as [.int 47, .int 47, .int (xi1_467.toInt8.toInt32), .int (xi1_474.toInt8.toInt32), .int 46] rfl
            refine oa 428 X515 at_426 rfl rfl <| mS 431 0 X515 (rm_au211 G q518 q519 q520 V682 (own_bne (by decide) q468 hj525_1) (own_bne (by decide) q475 hj525_2) (by decide) (by decide) (by decide)) (u19 G) all0 at_428 rfl rfl rfl lr (by decide) all0 ?_
            rintro _ _ _ _ X683 ⟨xa1_684, _, _, rfl, q687, q688, q689, q690, _⟩ _ _ _
            refine sk [.ref xa1_684] rfl <| oU 433 (l' := #[ii p1, ii p2, ii p3, ii p4, ii p5, ii 4, rr b455, rr b487, ii 1, ii 4, rr xa1_684, uu, uu]) X683 at_431 rfl rfl rfl <| oi 435 X683 at_433 rfl rfl <| oy 449 X683 at_435 (by decide) ((if0 _ _).trans (flt (by decide)).2.1) <| oa 451 X683 at_449 rfl rfl <| ifnonnullYesJ 456 X683 at_451 (by decide) <| oi 458 X683 at_456 rfl rfl <| oi 460 X683 at_458 rfl rfl <| o_isub 461 (v := 0) X683 at_460 rfl (by decide) <| oS 463 (l' := #[ii p1, ii p2, ii p3, ii p4, ii p5, ii 4, rr b455, rr b487, ii 1, ii 4, rr xa1_684, ii 0, uu]) X683 at_461 rfl rfl <| oa 465 X683 at_463 rfl rfl <| mV 468 0 X683 q687 (rm_au18 G q687 q688 q689 q690) (u25 G) all0 at_465 rfl rfl rfl lr (by decide) all0 ?_
            rintro _ _ _ _ X692 rfl _ _ _
            refine sk [i0] rfl <| oi 470 X692 at_468 rfl rfl <| oY 475 X692 at_470 (by decide) (teq (by decide)).1 <| oc 476 (v := 1) X692 at_475 rfl (by decide) <| oS 478 (l' := #[ii p1, ii p2, ii p3, ii p4, ii p5, ii 4, rr b455, rr b487, ii 1, ii 4, rr xa1_684, ii 0, ii 1]) X692 at_476 rfl rfl <| oi 480 X692 at_478 rfl rfl <| oc 481 (v := 1) X692 at_480 rfl (by decide) <| oY 512 X692 at_481 (by decide) (tlt (by decide)).1 <| oi 514 X692 at_512 rfl rfl <| oc 515 (v := 2) X692 at_514 rfl (by decide) <| oY 546 X692 at_515 (by decide) (tlt (by decide)).1 <| oi 548 X692 at_546 rfl rfl ?_
            refine oc 549 (v := 3) X692 at_548 rfl (by decide) <| oY 580 X692 at_549 (by decide) (tlt (by decide)).1 <| oi 582 X692 at_580 rfl rfl ?_
            exact o_nret (y := (1 : Int32)) (t := .boolean) X692 at_582 rfl (by decide) (by simp) (by decide) (by decide) (fun _ CC => rfl)
        · intro J2
          refine oc 328 (v := (-1)) X515 at_327 rfl (by decide) <| oS 330 (l' := #[ii p1, ii p2, ii p3, ii p4, ii p5, ii 4, rr b455, rr b487, ii 1, ii (-1), uu, uu, uu]) X515 at_328 rfl rfl <| oi 332 X515 at_330 rfl rfl <| oc 333 (v := 1) X515 at_332 rfl (by decide) <| oN 336 X515 at_333 rfl (flt (by decide)).1 <| oi 338 X515 at_336 rfl rfl <| oc 339 (v := 1) X515 at_338 rfl (by decide) <| oY 354 X515 at_339 (by decide) (flt (by decide)).2.1 <| oi 356 X515 at_354 rfl rfl <| oc 357 (v := 2) X515 at_356 rfl (by decide) <| oN 360 X515 at_357 rfl (flt (by decide)).1 <| oi 362 X515 at_360 rfl rfl ?_
          refine oc 363 (v := 2) X515 at_362 rfl (by decide) <| oN 366 X515 at_363 rfl (tlt (by decide)).2.1 <| oa 368 X515 at_366 rfl rfl <| oc 369 (v := 2) X515 at_368 rfl (by decide) ?_
          have f693 := (f507.oth W508 (by omega)).k1 K515 (by omega)
          refine oC 370 (v := (.int xi1_467)) X515 f693 ⟨by decide, by decide⟩ rfl at_369 rfl <| ob 372 (v := 46) X515 at_370 rfl (by decide) ?_
          by_cases hc694 : xi1_467 = (46 : Int32)
          · refine oN 375 X515 at_372 rfl (teq hc694).2 <| oc 376 (v := 2) X515 at_375 rfl (by decide) <| oS 378 (l' := #[ii p1, ii p2, ii p3, ii p4, ii p5, ii 4, rr b455, rr b487, ii 1, ii 2, uu, uu, uu]) X515 at_376 rfl rfl <| oi 380 X515 at_378 rfl rfl <| oc 381 (v := 3) X515 at_380 rfl (by decide) <| oN 384 X515 at_381 rfl (flt (by decide)).1 <| oi 386 X515 at_384 rfl rfl <| oc 387 (v := 3) X515 at_386 rfl (by decide) <| oN 390 X515 at_387 rfl (tlt (by decide)).2.1 <| oa 392 X515 at_390 rfl rfl <| oc 393 (v := 3) X515 at_392 rfl (by decide) <| oC 394 (v := (.int xi1_474)) X515 f693 ⟨by decide, by decide⟩ rfl at_393 rfl ?_
            refine ob 396 (v := 46) X515 at_394 rfl (by decide) ?_
            by_cases hc695 : xi1_474 = (46 : Int32)
            · refine oN 399 X515 at_396 rfl (teq hc695).2 <| oc 400 (v := 3) X515 at_399 rfl (by decide) <| oS 402 (l' := #[ii p1, ii p2, ii p3, ii p4, ii p5, ii 4, rr b455, rr b487, ii 1, ii 3, uu, uu, uu]) X515 at_400 rfl rfl <| oi 404 X515 at_402 rfl rfl <| oc 405 (v := 4) X515 at_404 rfl (by decide) <| oN 408 X515 at_405 rfl (flt (by decide)).1 <| oi 410 X515 at_408 rfl rfl <| oc 411 (v := 4) X515 at_410 rfl (by decide) <| oN 414 X515 at_411 rfl (tlt (by decide)).2.1 <| oa 416 X515 at_414 rfl rfl <| oc 417 (v := 4) X515 at_416 rfl (by decide) <| oC 418 (v := (.int xi1_481)) X515 f693 ⟨by decide, by decide⟩ rfl at_417 rfl ?_
              refine ob 420 (v := 46) X515 at_418 rfl (by decide) ?_
              by_cases hc696 : xi1_481 = (46 : Int32)
              · refine oN 423 X515 at_420 rfl (teq hc696).2 <| oc 424 (v := 4) X515 at_423 rfl (by decide) <| oS 426 (l' := #[ii p1, ii p2, ii p3, ii p4, ii p5, ii 4, rr b455, rr b487, ii 1, ii 4, uu, uu, uu]) X515 at_424 rfl rfl ?_
                exact J2 4 (Or.inr (Or.inr (Or.inr (⟨rfl, hc696⟩))))
              · refine oY 426 X515 at_420 (by decide) (feq hc696).2 ?_
                exact J2 3 (Or.inr (Or.inr (Or.inl ⟨rfl, hc695, hc696⟩)))
            · refine oY 402 X515 at_396 (by decide) (feq hc695).2 <| oi 404 X515 at_402 rfl rfl <| oc 405 (v := 4) X515 at_404 rfl (by decide) <| oN 408 X515 at_405 rfl (flt (by decide)).1 <| oi 410 X515 at_408 rfl rfl <| oc 411 (v := 4) X515 at_410 rfl (by decide) <| oN 414 X515 at_411 rfl (tlt (by decide)).2.1 <| oa 416 X515 at_414 rfl rfl <| oc 417 (v := 4) X515 at_416 rfl (by decide) <| oC 418 (v := (.int xi1_481)) X515 f693 ⟨by decide, by decide⟩ rfl at_417 rfl <| ob 420 (v := 46) X515 at_418 rfl (by decide) ?_
              by_cases hc697 : xi1_481 = (46 : Int32)
              · refine oN 423 X515 at_420 rfl (teq hc697).2 <| oc 424 (v := 4) X515 at_423 rfl (by decide) <| oS 426 (l' := #[ii p1, ii p2, ii p3, ii p4, ii p5, ii 4, rr b455, rr b487, ii 1, ii 4, uu, uu, uu]) X515 at_424 rfl rfl ?_
                exact J2 4 (Or.inr (Or.inr (Or.inr (⟨rfl, hc697⟩))))
              · refine oY 426 X515 at_420 (by decide) (feq hc697).2 ?_
                exact J2 2 (Or.inr (Or.inl ⟨rfl, hc694, hc695, hc697⟩))
          · refine oY 378 X515 at_372 (by decide) (feq hc694).2 <| oi 380 X515 at_378 rfl rfl <| oc 381 (v := 3) X515 at_380 rfl (by decide) <| oN 384 X515 at_381 rfl (flt (by decide)).1 <| oi 386 X515 at_384 rfl rfl <| oc 387 (v := 3) X515 at_386 rfl (by decide) <| oN 390 X515 at_387 rfl (tlt (by decide)).2.1 <| oa 392 X515 at_390 rfl rfl <| oc 393 (v := 3) X515 at_392 rfl (by decide) <| oC 394 (v := (.int xi1_474)) X515 f693 ⟨by decide, by decide⟩ rfl at_393 rfl <| ob 396 (v := 46) X515 at_394 rfl (by decide) ?_
            by_cases hc698 : xi1_474 = (46 : Int32)
            · refine oN 399 X515 at_396 rfl (teq hc698).2 <| oc 400 (v := 3) X515 at_399 rfl (by decide) <| oS 402 (l' := #[ii p1, ii p2, ii p3, ii p4, ii p5, ii 4, rr b455, rr b487, ii 1, ii 3, uu, uu, uu]) X515 at_400 rfl rfl <| oi 404 X515 at_402 rfl rfl <| oc 405 (v := 4) X515 at_404 rfl (by decide) <| oN 408 X515 at_405 rfl (flt (by decide)).1 <| oi 410 X515 at_408 rfl rfl <| oc 411 (v := 4) X515 at_410 rfl (by decide) <| oN 414 X515 at_411 rfl (tlt (by decide)).2.1 <| oa 416 X515 at_414 rfl rfl <| oc 417 (v := 4) X515 at_416 rfl (by decide) <| oC 418 (v := (.int xi1_481)) X515 f693 ⟨by decide, by decide⟩ rfl at_417 rfl ?_
              refine ob 420 (v := 46) X515 at_418 rfl (by decide) ?_
              by_cases hc699 : xi1_481 = (46 : Int32)
              · refine oN 423 X515 at_420 rfl (teq hc699).2 <| oc 424 (v := 4) X515 at_423 rfl (by decide) <| oS 426 (l' := #[ii p1, ii p2, ii p3, ii p4, ii p5, ii 4, rr b455, rr b487, ii 1, ii 4, uu, uu, uu]) X515 at_424 rfl rfl ?_
                exact J2 4 (Or.inr (Or.inr (Or.inr (⟨rfl, hc699⟩))))
              · refine oY 426 X515 at_420 (by decide) (feq hc699).2 ?_
                exact J2 3 (Or.inr (Or.inr (Or.inl ⟨rfl, hc698, hc699⟩)))
            · refine oY 402 X515 at_396 (by decide) (feq hc698).2 <| oi 404 X515 at_402 rfl rfl <| oc 405 (v := 4) X515 at_404 rfl (by decide) <| oN 408 X515 at_405 rfl (flt (by decide)).1 <| oi 410 X515 at_408 rfl rfl <| oc 411 (v := 4) X515 at_410 rfl (by decide) <| oN 414 X515 at_411 rfl (tlt (by decide)).2.1 <| oa 416 X515 at_414 rfl rfl <| oc 417 (v := 4) X515 at_416 rfl (by decide) <| oC 418 (v := (.int xi1_481)) X515 f693 ⟨by decide, by decide⟩ rfl at_417 rfl <| ob 420 (v := 46) X515 at_418 rfl (by decide) ?_
              by_cases hc700 : xi1_481 = (46 : Int32)
              · refine oN 423 X515 at_420 rfl (teq hc700).2 <| oc 424 (v := 4) X515 at_423 rfl (by decide) <| oS 426 (l' := #[ii p1, ii p2, ii p3, ii p4, ii p5, ii 4, rr b455, rr b487, ii 1, ii 4, uu, uu, uu]) X515 at_424 rfl rfl ?_
                exact J2 4 (Or.inr (Or.inr (Or.inr (⟨rfl, hc700⟩))))
              · refine oY 426 X515 at_420 (by decide) (feq hc700).2 ?_
                exact J2 (-1) (Or.inl ⟨rfl, hc694, hc698, hc700⟩)
      · show Go _ _ _ _ (State.setTop _ (mkF _ 327 #[ii p1, ii p2, ii p3, ii p4, ii p5, ii 4, rr b455, rr b487, ii 2, uu, uu, uu, uu] []))
        refine jn 426 (fun a => (a = (-1 : Int32) ∧ ¬ xi1_474 = (46 : Int32) ∧ ¬ xi1_481 = (46 : Int32)) ∨ (a = (3 : Int32) ∧ xi1_474 = (46 : Int32) ∧ ¬ xi1_481 = (46 : Int32)) ∨ (a = (4 : Int32) ∧ xi1_481 = (46 : Int32))) (fun a => #[ii p1, ii p2, ii p3, ii p4, ii p5, ii 4, rr b455, rr b487, ii 2, ii a, uu, uu, uu]) ?_ ?_
        · rintro _ (⟨rfl, hj701_0, hj701_1⟩ | ⟨rfl, hj701_0, hj701_1⟩ | ⟨rfl, hj701_0⟩)
          · show Go _ _ _ _ (State.setTop _ (mkF _ 426 #[ii p1, ii p2, ii p3, ii p4, ii p5, ii 4, rr b455, rr b487, ii 2, ii (-1), uu, uu, uu] []))
            subst hj525_0
            have V702 := q521.as [.int 47, .int (xi1_460.toInt8.toInt32), .int 47, .int (xi1_474.toInt8.toInt32), .int (xi1_481.toInt8.toInt32)] rfl
            refine oa 428 X515 at_426 rfl rfl <| mS 431 0 X515 (rm_au220 G q518 q519 q520 V702 (own_bne (by decide) q475 hj701_0) (own_bne (by decide) q475 hj525_1) (own_bne (by decide) q482 hj701_1) (own_bne (by decide) q482 hj525_2) (by decide)) (u19 G) all0 at_428 rfl rfl rfl lr (by decide) all0 ?_
            rintro _ _ _ _ X703 rfl _ _ _
            refine sk [.null] rfl <| oU 433 (l' := #[ii p1, ii p2, ii p3, ii p4, ii p5, ii 4, rr b455, rr b487, ii 2, ii (-1), .val .null, uu, uu]) X703 at_431 rfl rfl rfl <| oi 435 X703 at_433 rfl rfl <| on 438 X703 at_435 rfl ((if0 _ _).trans (tlt (by decide)).2.1) <| o_aload 440 X703 at_438 rfl rfl rfl <| o_ifnonnullNo 443 X703 at_440 rfl <| oc 444 (v := 1) X703 at_443 rfl (by decide) <| og 448 X703 at_444 (by decide) ?_
            exact o_nret (y := (1 : Int32)) (t := .boolean) X703 at_448 rfl (by decide) (by simp) (by decide) (by decide) (fun _ CC => rfl)
          · show Go _ _ _ _ (State.setTop _ (mkF _ 426 #[ii p1, ii p2, ii p3, ii p4, ii p5, ii 4, rr b455, rr b487, ii 2, ii 3, uu, uu, uu] []))
            subst hj525_0
            subst hj701_0
            have V704 := q521.as [.int 47, .int (xi1_460.toInt8.toInt32), .int 47, .int 46, .int (xi1_481.toInt8.toInt32)] rfl
            refine oa 428 X515 at_426 rfl rfl <| mS 431 0 X515 (rm_au221 G q518 q519 q520 V704 (own_bne (by decide) q482 hj701_1) (own_bne (by decide) q482 hj525_2) (by decide) (by decide) (by decide)) (u19 G) all0 at_428 rfl rfl rfl lr (by decide) all0 ?_
            rintro _ _ _ _ X705 ⟨xa1_706, _, _, rfl, q709, q710, q711, _, q713, _, _, _⟩ K705 _ _
            refine sk [.ref xa1_706] rfl <| oU 433 (l' := #[ii p1, ii p2, ii p3, ii p4, ii p5, ii 4, rr b455, rr b487, ii 2, ii 3, rr xa1_706, uu, uu]) X705 at_431 rfl rfl rfl <| oi 435 X705 at_433 rfl rfl <| oy 449 X705 at_435 (by decide) ((if0 _ _).trans (flt (by decide)).2.1) <| oa 451 X705 at_449 rfl rfl <| ifnonnullYesJ 456 X705 at_451 (by decide) <| oi 458 X705 at_456 rfl rfl <| oi 460 X705 at_458 rfl rfl <| o_isub 461 (v := 1) X705 at_460 rfl (by decide) <| oS 463 (l' := #[ii p1, ii p2, ii p3, ii p4, ii p5, ii 4, rr b455, rr b487, ii 2, ii 3, rr xa1_706, ii 1, uu]) X705 at_461 rfl rfl <| oa 465 X705 at_463 rfl rfl <| mV 468 0 X705 q709 (rm_au6 G q709 q710 q711 q713) (u25 G) all0 at_465 rfl rfl rfl lr (by decide) all0 ?_
            rintro _ _ _ _ X717 rfl K717 _ _
            refine sk [.int 1] rfl <| oi 470 X717 at_468 rfl rfl <| oY 475 X717 at_470 (by decide) (teq (by decide)).1 <| oc 476 (v := 1) X717 at_475 rfl (by decide) <| oS 478 (l' := #[ii p1, ii p2, ii p3, ii p4, ii p5, ii 4, rr b455, rr b487, ii 2, ii 3, rr xa1_706, ii 1, ii 1]) X717 at_476 rfl rfl <| oi 480 X717 at_478 rfl rfl <| oc 481 (v := 1) X717 at_480 rfl (by decide) <| oN 484 X717 at_481 rfl (flt (by decide)).1 <| oi 486 X717 at_484 rfl rfl <| on 489 X717 at_486 rfl ((if0 _ _).trans (feq (by decide)).1) <| oa 491 X717 at_489 rfl rfl <| oc 492 (v := 0) X717 at_491 rfl (by decide) ?_
            have f718 := q709.keep K717
            have f719 := q710.k0 K717
            have f720 := q711.k0 K717
            have f721 := q713.k0 K717
            refine mV 495 0 X717 f718 (rm_au78 G f718 f719 f720 f721) (u29 G) all0 at_492 rfl rfl rfl lr (by decide) all0 ?_
            rintro _ _ _ _ X722 rfl K722 _ _
            refine sk [.int (((xi1_481.toInt8.toInt32) &&& (255 : Int32)).toUInt32.toUInt16.toUInt32.toInt32)] rfl <| oa 497 X722 at_495 rfl rfl <| oi 499 X722 at_497 rfl rfl <| oc 500 (v := 1) X722 at_499 rfl (by decide) <| o_iadd 501 (v := 4) X722 at_500 rfl (by decide) ?_
            have f723 := ((((f507.oth W508 (by omega)).k1 K515 (by omega)).k0 K705).k0 K717).k0 K722
            refine oC 502 (v := (.int xi1_481)) X722 f723 ⟨by decide, by decide⟩ rfl at_501 rfl <| oN 505 X722 at_502 rfl (teq (own_ch255 q482)).2 <| oc 506 (v := 1) X722 at_505 rfl (by decide) <| og 510 X722 at_506 (by decide) <| oS 512 (l' := #[ii p1, ii p2, ii p3, ii p4, ii p5, ii 4, rr b455, rr b487, ii 2, ii 3, rr xa1_706, ii 1, ii 1]) X722 at_510 rfl rfl <| oi 514 X722 at_512 rfl rfl <| oc 515 (v := 2) X722 at_514 rfl (by decide) <| oY 546 X722 at_515 (by decide) (tlt (by decide)).1 <| oi 548 X722 at_546 rfl rfl <| oc 549 (v := 3) X722 at_548 rfl (by decide) <| oY 580 X722 at_549 (by decide) (tlt (by decide)).1 <| oi 582 X722 at_580 rfl rfl ?_
            exact o_nret (y := (1 : Int32)) (t := .boolean) X722 at_582 rfl (by decide) (by simp) (by decide) (by decide) (fun _ CC => rfl)
          · show Go _ _ _ _ (State.setTop _ (mkF _ 426 #[ii p1, ii p2, ii p3, ii p4, ii p5, ii 4, rr b455, rr b487, ii 2, ii 4, uu, uu, uu] []))
            subst hj525_0
            subst hj701_0
            have V724 := q521.as [.int 47, .int (xi1_460.toInt8.toInt32), .int 47, .int (xi1_474.toInt8.toInt32), .int 46] rfl
            refine oa 428 X515 at_426 rfl rfl <| mS 431 0 X515 (rm_au222 G q518 q519 q520 V724 (own_bne (by decide) q475 hj525_1) (by decide) (by decide) (by decide)) (u19 G) all0 at_428 rfl rfl rfl lr (by decide) all0 ?_
            rintro _ _ _ _ X725 ⟨xa1_726, _, _, rfl, q729, q730, q731, q732, _⟩ _ _ _
            refine sk [.ref xa1_726] rfl <| oU 433 (l' := #[ii p1, ii p2, ii p3, ii p4, ii p5, ii 4, rr b455, rr b487, ii 2, ii 4, rr xa1_726, uu, uu]) X725 at_431 rfl rfl rfl <| oi 435 X725 at_433 rfl rfl <| oy 449 X725 at_435 (by decide) ((if0 _ _).trans (flt (by decide)).2.1) <| oa 451 X725 at_449 rfl rfl <| ifnonnullYesJ 456 X725 at_451 (by decide) <| oi 458 X725 at_456 rfl rfl <| oi 460 X725 at_458 rfl rfl <| o_isub 461 (v := 0) X725 at_460 rfl (by decide) <| oS 463 (l' := #[ii p1, ii p2, ii p3, ii p4, ii p5, ii 4, rr b455, rr b487, ii 2, ii 4, rr xa1_726, ii 0, uu]) X725 at_461 rfl rfl <| oa 465 X725 at_463 rfl rfl <| mV 468 0 X725 q729 (rm_au18 G q729 q730 q731 q732) (u25 G) all0 at_465 rfl rfl rfl lr (by decide) all0 ?_
            rintro _ _ _ _ X734 rfl _ _ _
            refine sk [i0] rfl <| oi 470 X734 at_468 rfl rfl <| oY 475 X734 at_470 (by decide) (teq (by decide)).1 <| oc 476 (v := 1) X734 at_475 rfl (by decide) <| oS 478 (l' := #[ii p1, ii p2, ii p3, ii p4, ii p5, ii 4, rr b455, rr b487, ii 2, ii 4, rr xa1_726, ii 0, ii 1]) X734 at_476 rfl rfl <| oi 480 X734 at_478 rfl rfl <| oc 481 (v := 1) X734 at_480 rfl (by decide) <| oY 512 X734 at_481 (by decide) (tlt (by decide)).1 <| oi 514 X734 at_512 rfl rfl <| oc 515 (v := 2) X734 at_514 rfl (by decide) <| oY 546 X734 at_515 (by decide) (tlt (by decide)).1 <| oi 548 X734 at_546 rfl rfl ?_
            refine oc 549 (v := 3) X734 at_548 rfl (by decide) <| oY 580 X734 at_549 (by decide) (tlt (by decide)).1 <| oi 582 X734 at_580 rfl rfl ?_
            exact o_nret (y := (1 : Int32)) (t := .boolean) X734 at_582 rfl (by decide) (by simp) (by decide) (by decide) (fun _ CC => rfl)
        · intro J2
          refine oc 328 (v := (-1)) X515 at_327 rfl (by decide) <| oS 330 (l' := #[ii p1, ii p2, ii p3, ii p4, ii p5, ii 4, rr b455, rr b487, ii 2, ii (-1), uu, uu, uu]) X515 at_328 rfl rfl <| oi 332 X515 at_330 rfl rfl <| oc 333 (v := 1) X515 at_332 rfl (by decide) <| oN 336 X515 at_333 rfl (flt (by decide)).1 <| oi 338 X515 at_336 rfl rfl <| oc 339 (v := 1) X515 at_338 rfl (by decide) <| oY 354 X515 at_339 (by decide) (flt (by decide)).2.1 <| oi 356 X515 at_354 rfl rfl <| oc 357 (v := 2) X515 at_356 rfl (by decide) <| oN 360 X515 at_357 rfl (flt (by decide)).1 <| oi 362 X515 at_360 rfl rfl ?_
          refine oc 363 (v := 2) X515 at_362 rfl (by decide) <| oY 378 X515 at_363 (by decide) (flt (by decide)).2.1 <| oi 380 X515 at_378 rfl rfl <| oc 381 (v := 3) X515 at_380 rfl (by decide) <| oN 384 X515 at_381 rfl (flt (by decide)).1 <| oi 386 X515 at_384 rfl rfl <| oc 387 (v := 3) X515 at_386 rfl (by decide) <| oN 390 X515 at_387 rfl (tlt (by decide)).2.1 <| oa 392 X515 at_390 rfl rfl <| oc 393 (v := 3) X515 at_392 rfl (by decide) ?_
          have f735 := (f507.oth W508 (by omega)).k1 K515 (by omega)
          refine oC 394 (v := (.int xi1_474)) X515 f735 ⟨by decide, by decide⟩ rfl at_393 rfl <| ob 396 (v := 46) X515 at_394 rfl (by decide) ?_
          by_cases hc736 : xi1_474 = (46 : Int32)
          · refine oN 399 X515 at_396 rfl (teq hc736).2 <| oc 400 (v := 3) X515 at_399 rfl (by decide) <| oS 402 (l' := #[ii p1, ii p2, ii p3, ii p4, ii p5, ii 4, rr b455, rr b487, ii 2, ii 3, uu, uu, uu]) X515 at_400 rfl rfl <| oi 404 X515 at_402 rfl rfl <| oc 405 (v := 4) X515 at_404 rfl (by decide) <| oN 408 X515 at_405 rfl (flt (by decide)).1 <| oi 410 X515 at_408 rfl rfl <| oc 411 (v := 4) X515 at_410 rfl (by decide) <| oN 414 X515 at_411 rfl (tlt (by decide)).2.1 <| oa 416 X515 at_414 rfl rfl <| oc 417 (v := 4) X515 at_416 rfl (by decide) <| oC 418 (v := (.int xi1_481)) X515 f735 ⟨by decide, by decide⟩ rfl at_417 rfl ?_
            refine ob 420 (v := 46) X515 at_418 rfl (by decide) ?_
            by_cases hc737 : xi1_481 = (46 : Int32)
            · refine oN 423 X515 at_420 rfl (teq hc737).2 <| oc 424 (v := 4) X515 at_423 rfl (by decide) <| oS 426 (l' := #[ii p1, ii p2, ii p3, ii p4, ii p5, ii 4, rr b455, rr b487, ii 2, ii 4, uu, uu, uu]) X515 at_424 rfl rfl ?_
              exact J2 4 (Or.inr (Or.inr (⟨rfl, hc737⟩)))
            · refine oY 426 X515 at_420 (by decide) (feq hc737).2 ?_
              exact J2 3 (Or.inr (Or.inl ⟨rfl, hc736, hc737⟩))
          · refine oY 402 X515 at_396 (by decide) (feq hc736).2 <| oi 404 X515 at_402 rfl rfl <| oc 405 (v := 4) X515 at_404 rfl (by decide) <| oN 408 X515 at_405 rfl (flt (by decide)).1 <| oi 410 X515 at_408 rfl rfl <| oc 411 (v := 4) X515 at_410 rfl (by decide) <| oN 414 X515 at_411 rfl (tlt (by decide)).2.1 <| oa 416 X515 at_414 rfl rfl <| oc 417 (v := 4) X515 at_416 rfl (by decide) <| oC 418 (v := (.int xi1_481)) X515 f735 ⟨by decide, by decide⟩ rfl at_417 rfl <| ob 420 (v := 46) X515 at_418 rfl (by decide) ?_
            by_cases hc738 : xi1_481 = (46 : Int32)
            · refine oN 423 X515 at_420 rfl (teq hc738).2 <| oc 424 (v := 4) X515 at_423 rfl (by decide) <| oS 426 (l' := #[ii p1, ii p2, ii p3, ii p4, ii p5, ii 4, rr b455, rr b487, ii 2, ii 4, uu, uu, uu]) X515 at_424 rfl rfl ?_
              exact J2 4 (Or.inr (Or.inr (⟨rfl, hc738⟩)))
            · refine oY 426 X515 at_420 (by decide) (feq hc738).2 ?_
              exact J2 (-1) (Or.inl ⟨rfl, hc736, hc738⟩)
      · show Go _ _ _ _ (State.setTop _ (mkF _ 327 #[ii p1, ii p2, ii p3, ii p4, ii p5, ii 4, rr b455, rr b487, ii 3, uu, uu, uu, uu] []))
        refine jn 426 (fun a => (a = (-1 : Int32) ∧ ¬ xi1_481 = (46 : Int32)) ∨ (a = (4 : Int32) ∧ xi1_481 = (46 : Int32))) (fun a => #[ii p1, ii p2, ii p3, ii p4, ii p5, ii 4, rr b455, rr b487, ii 3, ii a, uu, uu, uu]) ?_ ?_
        · rintro _ (⟨rfl, hj739_0⟩ | ⟨rfl, hj739_0⟩)
          · show Go _ _ _ _ (State.setTop _ (mkF _ 426 #[ii p1, ii p2, ii p3, ii p4, ii p5, ii 4, rr b455, rr b487, ii 3, ii (-1), uu, uu, uu] []))
            subst hj525_0
            have V740 := q521.as [.int 47, .int (xi1_460.toInt8.toInt32), .int (xi1_467.toInt8.toInt32), .int 47, .int (xi1_481.toInt8.toInt32)] rfl
            refine oa 428 X515 at_426 rfl rfl <| mS 431 0 X515 (rm_au231 G q518 q519 q520 V740 (own_bne (by decide) q482 hj739_0) (own_bne (by decide) q482 hj525_1) (by decide)) (u19 G) all0 at_428 rfl rfl rfl lr (by decide) all0 ?_
            rintro _ _ _ _ X741 rfl _ _ _
            refine sk [.null] rfl <| oU 433 (l' := #[ii p1, ii p2, ii p3, ii p4, ii p5, ii 4, rr b455, rr b487, ii 3, ii (-1), .val .null, uu, uu]) X741 at_431 rfl rfl rfl <| oi 435 X741 at_433 rfl rfl <| on 438 X741 at_435 rfl ((if0 _ _).trans (tlt (by decide)).2.1) <| o_aload 440 X741 at_438 rfl rfl rfl <| o_ifnonnullNo 443 X741 at_440 rfl <| oc 444 (v := 1) X741 at_443 rfl (by decide) <| og 448 X741 at_444 (by decide) ?_
            exact o_nret (y := (1 : Int32)) (t := .boolean) X741 at_448 rfl (by decide) (by simp) (by decide) (by decide) (fun _ CC => rfl)
          · show Go _ _ _ _ (State.setTop _ (mkF _ 426 #[ii p1, ii p2, ii p3, ii p4, ii p5, ii 4, rr b455, rr b487, ii 3, ii 4, uu, uu, uu] []))
            subst hj525_0
            subst hj739_0
            have V742 := q521.as [.int 47, .int (xi1_460.toInt8.toInt32), .int (xi1_467.toInt8.toInt32), .int 47, .int 46] rfl
            refine oa 428 X515 at_426 rfl rfl <| mS 431 0 X515 (rm_au232 G q518 q519 q520 V742 (by decide) (by decide) (by decide)) (u19 G) all0 at_428 rfl rfl rfl lr (by decide) all0 ?_
            rintro _ _ _ _ X743 ⟨xa1_744, _, _, rfl, q747, q748, q749, q750, _⟩ _ _ _
            refine sk [.ref xa1_744] rfl <| oU 433 (l' := #[ii p1, ii p2, ii p3, ii p4, ii p5, ii 4, rr b455, rr b487, ii 3, ii 4, rr xa1_744, uu, uu]) X743 at_431 rfl rfl rfl <| oi 435 X743 at_433 rfl rfl <| oy 449 X743 at_435 (by decide) ((if0 _ _).trans (flt (by decide)).2.1) <| oa 451 X743 at_449 rfl rfl <| ifnonnullYesJ 456 X743 at_451 (by decide) <| oi 458 X743 at_456 rfl rfl <| oi 460 X743 at_458 rfl rfl <| o_isub 461 (v := 0) X743 at_460 rfl (by decide) <| oS 463 (l' := #[ii p1, ii p2, ii p3, ii p4, ii p5, ii 4, rr b455, rr b487, ii 3, ii 4, rr xa1_744, ii 0, uu]) X743 at_461 rfl rfl <| oa 465 X743 at_463 rfl rfl <| mV 468 0 X743 q747 (rm_au18 G q747 q748 q749 q750) (u25 G) all0 at_465 rfl rfl rfl lr (by decide) all0 ?_
            rintro _ _ _ _ X752 rfl _ _ _
            refine sk [i0] rfl <| oi 470 X752 at_468 rfl rfl <| oY 475 X752 at_470 (by decide) (teq (by decide)).1 <| oc 476 (v := 1) X752 at_475 rfl (by decide) <| oS 478 (l' := #[ii p1, ii p2, ii p3, ii p4, ii p5, ii 4, rr b455, rr b487, ii 3, ii 4, rr xa1_744, ii 0, ii 1]) X752 at_476 rfl rfl <| oi 480 X752 at_478 rfl rfl <| oc 481 (v := 1) X752 at_480 rfl (by decide) <| oY 512 X752 at_481 (by decide) (tlt (by decide)).1 <| oi 514 X752 at_512 rfl rfl <| oc 515 (v := 2) X752 at_514 rfl (by decide) <| oY 546 X752 at_515 (by decide) (tlt (by decide)).1 <| oi 548 X752 at_546 rfl rfl ?_
            refine oc 549 (v := 3) X752 at_548 rfl (by decide) <| oY 580 X752 at_549 (by decide) (tlt (by decide)).1 <| oi 582 X752 at_580 rfl rfl ?_
            exact o_nret (y := (1 : Int32)) (t := .boolean) X752 at_582 rfl (by decide) (by simp) (by decide) (by decide) (fun _ CC => rfl)
        · intro J2
          refine oc 328 (v := (-1)) X515 at_327 rfl (by decide) <| oS 330 (l' := #[ii p1, ii p2, ii p3, ii p4, ii p5, ii 4, rr b455, rr b487, ii 3, ii (-1), uu, uu, uu]) X515 at_328 rfl rfl <| oi 332 X515 at_330 rfl rfl <| oc 333 (v := 1) X515 at_332 rfl (by decide) <| oN 336 X515 at_333 rfl (flt (by decide)).1 <| oi 338 X515 at_336 rfl rfl <| oc 339 (v := 1) X515 at_338 rfl (by decide) <| oY 354 X515 at_339 (by decide) (flt (by decide)).2.1 <| oi 356 X515 at_354 rfl rfl <| oc 357 (v := 2) X515 at_356 rfl (by decide) <| oN 360 X515 at_357 rfl (flt (by decide)).1 <| oi 362 X515 at_360 rfl rfl ?_
          refine oc 363 (v := 2) X515 at_362 rfl (by decide) <| oY 378 X515 at_363 (by decide) (flt (by decide)).2.1 <| oi 380 X515 at_378 rfl rfl <| oc 381 (v := 3) X515 at_380 rfl (by decide) <| oN 384 X515 at_381 rfl (flt (by decide)).1 <| oi 386 X515 at_384 rfl rfl <| oc 387 (v := 3) X515 at_386 rfl (by decide) <| oY 402 X515 at_387 (by decide) (flt (by decide)).2.1 <| oi 404 X515 at_402 rfl rfl <| oc 405 (v := 4) X515 at_404 rfl (by decide) <| oN 408 X515 at_405 rfl (flt (by decide)).1 <| oi 410 X515 at_408 rfl rfl ?_
          refine oc 411 (v := 4) X515 at_410 rfl (by decide) <| oN 414 X515 at_411 rfl (tlt (by decide)).2.1 <| oa 416 X515 at_414 rfl rfl <| oc 417 (v := 4) X515 at_416 rfl (by decide) ?_
          have f753 := (f507.oth W508 (by omega)).k1 K515 (by omega)
          refine oC 418 (v := (.int xi1_481)) X515 f753 ⟨by decide, by decide⟩ rfl at_417 rfl <| ob 420 (v := 46) X515 at_418 rfl (by decide) ?_
          by_cases hc754 : xi1_481 = (46 : Int32)
          · refine oN 423 X515 at_420 rfl (teq hc754).2 <| oc 424 (v := 4) X515 at_423 rfl (by decide) <| oS 426 (l' := #[ii p1, ii p2, ii p3, ii p4, ii p5, ii 4, rr b455, rr b487, ii 3, ii 4, uu, uu, uu]) X515 at_424 rfl rfl ?_
            exact J2 4 (Or.inr (⟨rfl, hc754⟩))
          · refine oY 426 X515 at_420 (by decide) (feq hc754).2 ?_
            exact J2 (-1) (Or.inl ⟨rfl, hc754⟩)
      · show Go _ _ _ _ (State.setTop _ (mkF _ 327 #[ii p1, ii p2, ii p3, ii p4, ii p5, ii 4, rr b455, rr b487, ii 4, uu, uu, uu, uu] []))
        refine oc 328 (v := (-1)) X515 at_327 rfl (by decide) <| oS 330 (l' := #[ii p1, ii p2, ii p3, ii p4, ii p5, ii 4, rr b455, rr b487, ii 4, ii (-1), uu, uu, uu]) X515 at_328 rfl rfl <| oi 332 X515 at_330 rfl rfl <| oc 333 (v := 1) X515 at_332 rfl (by decide) <| oN 336 X515 at_333 rfl (flt (by decide)).1 <| oi 338 X515 at_336 rfl rfl <| oc 339 (v := 1) X515 at_338 rfl (by decide) <| oY 354 X515 at_339 (by decide) (flt (by decide)).2.1 <| oi 356 X515 at_354 rfl rfl <| oc 357 (v := 2) X515 at_356 rfl (by decide) <| oN 360 X515 at_357 rfl (flt (by decide)).1 <| oi 362 X515 at_360 rfl rfl ?_
        refine oc 363 (v := 2) X515 at_362 rfl (by decide) <| oY 378 X515 at_363 (by decide) (flt (by decide)).2.1 <| oi 380 X515 at_378 rfl rfl <| oc 381 (v := 3) X515 at_380 rfl (by decide) <| oN 384 X515 at_381 rfl (flt (by decide)).1 <| oi 386 X515 at_384 rfl rfl <| oc 387 (v := 3) X515 at_386 rfl (by decide) <| oY 402 X515 at_387 (by decide) (flt (by decide)).2.1 <| oi 404 X515 at_402 rfl rfl <| oc 405 (v := 4) X515 at_404 rfl (by decide) <| oN 408 X515 at_405 rfl (flt (by decide)).1 <| oi 410 X515 at_408 rfl rfl ?_
        refine oc 411 (v := 4) X515 at_410 rfl (by decide) <| oY 426 X515 at_411 (by decide) (flt (by decide)).2.1 ?_
        subst hj525_0
        have V755 := q521.as [.int 47, .int (xi1_460.toInt8.toInt32), .int (xi1_467.toInt8.toInt32), .int (xi1_474.toInt8.toInt32), .int 47] rfl
        refine oa 428 X515 at_426 rfl rfl <| mS 431 0 X515 (rm_au238 G q518 q519 q520 V755 q522 (by decide)) (u19 G) all0 at_428 rfl rfl rfl lr (by decide) all0 ?_
        rintro _ _ _ _ X756 rfl _ _ _
        refine sk [.null] rfl <| oU 433 (l' := #[ii p1, ii p2, ii p3, ii p4, ii p5, ii 4, rr b455, rr b487, ii 4, ii (-1), .val .null, uu, uu]) X756 at_431 rfl rfl rfl <| oi 435 X756 at_433 rfl rfl <| on 438 X756 at_435 rfl ((if0 _ _).trans (tlt (by decide)).2.1) <| o_aload 440 X756 at_438 rfl rfl rfl <| o_ifnonnullNo 443 X756 at_440 rfl <| oc 444 (v := 1) X756 at_443 rfl (by decide) <| og 448 X756 at_444 (by decide) ?_
        exact o_nret (y := (1 : Int32)) (t := .boolean) X756 at_448 rfl (by decide) (by simp) (by decide) (by decide) (fun _ CC => rfl)
    · intro J1
      refine oc 253 (v := 0) X515 at_252 rfl (by decide) <| oS 255 (l' := #[ii p1, ii p2, ii p3, ii p4, ii p5, ii 4, rr b455, rr b487, ii 0, uu, uu, uu, uu]) X515 at_253 rfl rfl <| oi 257 X515 at_255 rfl rfl <| oc 258 (v := 1) X515 at_257 rfl (by decide) <| oN 261 X515 at_258 rfl (flt (by decide)).1 <| oa 263 X515 at_261 rfl rfl <| oc 264 (v := 1) X515 at_263 rfl (by decide) ?_
      have f757 := (f507.oth W508 (by omega)).k1 K515 (by omega)
      refine oC 265 (v := (.int xi1_460)) X515 f757 ⟨by decide, by decide⟩ rfl at_264 rfl <| ob 267 (v := 47) X515 at_265 rfl (by decide) ?_
      by_cases hc758 : xi1_460 = (47 : Int32)
      · refine oN 270 X515 at_267 rfl (teq hc758).2 <| oc 271 (v := 1) X515 at_270 rfl (by decide) <| oS 273 (l' := #[ii p1, ii p2, ii p3, ii p4, ii p5, ii 4, rr b455, rr b487, ii 1, uu, uu, uu, uu]) X515 at_271 rfl rfl <| oi 275 X515 at_273 rfl rfl <| oc 276 (v := 2) X515 at_275 rfl (by decide) <| oN 279 X515 at_276 rfl (flt (by decide)).1 <| oa 281 X515 at_279 rfl rfl <| oc 282 (v := 2) X515 at_281 rfl (by decide) <| oC 283 (v := (.int xi1_467)) X515 f757 ⟨by decide, by decide⟩ rfl at_282 rfl <| ob 285 (v := 47) X515 at_283 rfl (by decide) ?_
        by_cases hc759 : xi1_467 = (47 : Int32)
        · refine oN 288 X515 at_285 rfl (teq hc759).2 <| oc 289 (v := 2) X515 at_288 rfl (by decide) <| oS 291 (l' := #[ii p1, ii p2, ii p3, ii p4, ii p5, ii 4, rr b455, rr b487, ii 2, uu, uu, uu, uu]) X515 at_289 rfl rfl <| oi 293 X515 at_291 rfl rfl <| oc 294 (v := 3) X515 at_293 rfl (by decide) <| oN 297 X515 at_294 rfl (flt (by decide)).1 <| oa 299 X515 at_297 rfl rfl <| oc 300 (v := 3) X515 at_299 rfl (by decide) <| oC 301 (v := (.int xi1_474)) X515 f757 ⟨by decide, by decide⟩ rfl at_300 rfl <| ob 303 (v := 47) X515 at_301 rfl (by decide) ?_
          by_cases hc760 : xi1_474 = (47 : Int32)
          · refine oN 306 X515 at_303 rfl (teq hc760).2 <| oc 307 (v := 3) X515 at_306 rfl (by decide) <| oS 309 (l' := #[ii p1, ii p2, ii p3, ii p4, ii p5, ii 4, rr b455, rr b487, ii 3, uu, uu, uu, uu]) X515 at_307 rfl rfl <| oi 311 X515 at_309 rfl rfl <| oc 312 (v := 4) X515 at_311 rfl (by decide) <| oN 315 X515 at_312 rfl (flt (by decide)).1 <| oa 317 X515 at_315 rfl rfl <| oc 318 (v := 4) X515 at_317 rfl (by decide) <| oC 319 (v := (.int xi1_481)) X515 f757 ⟨by decide, by decide⟩ rfl at_318 rfl <| ob 321 (v := 47) X515 at_319 rfl (by decide) ?_
            by_cases hc761 : xi1_481 = (47 : Int32)
            · refine oN 324 X515 at_321 rfl (teq hc761).2 <| oc 325 (v := 4) X515 at_324 rfl (by decide) <| oS 327 (l' := #[ii p1, ii p2, ii p3, ii p4, ii p5, ii 4, rr b455, rr b487, ii 4, uu, uu, uu, uu]) X515 at_325 rfl rfl ?_
              exact J1 4 (Or.inr (Or.inr (Or.inr (Or.inr (⟨rfl, hc761⟩)))))
            · refine oY 327 X515 at_321 (by decide) (feq hc761).2 ?_
              exact J1 3 (Or.inr (Or.inr (Or.inr (Or.inl ⟨rfl, hc760, hc761⟩))))
          · refine oY 309 X515 at_303 (by decide) (feq hc760).2 <| oi 311 X515 at_309 rfl rfl <| oc 312 (v := 4) X515 at_311 rfl (by decide) <| oN 315 X515 at_312 rfl (flt (by decide)).1 <| oa 317 X515 at_315 rfl rfl <| oc 318 (v := 4) X515 at_317 rfl (by decide) <| oC 319 (v := (.int xi1_481)) X515 f757 ⟨by decide, by decide⟩ rfl at_318 rfl <| ob 321 (v := 47) X515 at_319 rfl (by decide) ?_
            by_cases hc762 : xi1_481 = (47 : Int32)
            · refine oN 324 X515 at_321 rfl (teq hc762).2 <| oc 325 (v := 4) X515 at_324 rfl (by decide) <| oS 327 (l' := #[ii p1, ii p2, ii p3, ii p4, ii p5, ii 4, rr b455, rr b487, ii 4, uu, uu, uu, uu]) X515 at_325 rfl rfl ?_
              exact J1 4 (Or.inr (Or.inr (Or.inr (Or.inr (⟨rfl, hc762⟩)))))
            · refine oY 327 X515 at_321 (by decide) (feq hc762).2 ?_
              exact J1 2 (Or.inr (Or.inr (Or.inl ⟨rfl, hc759, hc760, hc762⟩)))
        · refine oY 291 X515 at_285 (by decide) (feq hc759).2 <| oi 293 X515 at_291 rfl rfl <| oc 294 (v := 3) X515 at_293 rfl (by decide) <| oN 297 X515 at_294 rfl (flt (by decide)).1 <| oa 299 X515 at_297 rfl rfl <| oc 300 (v := 3) X515 at_299 rfl (by decide) <| oC 301 (v := (.int xi1_474)) X515 f757 ⟨by decide, by decide⟩ rfl at_300 rfl <| ob 303 (v := 47) X515 at_301 rfl (by decide) ?_
          by_cases hc763 : xi1_474 = (47 : Int32)
          · refine oN 306 X515 at_303 rfl (teq hc763).2 <| oc 307 (v := 3) X515 at_306 rfl (by decide) <| oS 309 (l' := #[ii p1, ii p2, ii p3, ii p4, ii p5, ii 4, rr b455, rr b487, ii 3, uu, uu, uu, uu]) X515 at_307 rfl rfl <| oi 311 X515 at_309 rfl rfl <| oc 312 (v := 4) X515 at_311 rfl (by decide) <| oN 315 X515 at_312 rfl (flt (by decide)).1 <| oa 317 X515 at_315 rfl rfl <| oc 318 (v := 4) X515 at_317 rfl (by decide) <| oC 319 (v := (.int xi1_481)) X515 f757 ⟨by decide, by decide⟩ rfl at_318 rfl <| ob 321 (v := 47) X515 at_319 rfl (by decide) ?_
            by_cases hc764 : xi1_481 = (47 : Int32)
            · refine oN 324 X515 at_321 rfl (teq hc764).2 <| oc 325 (v := 4) X515 at_324 rfl (by decide) <| oS 327 (l' := #[ii p1, ii p2, ii p3, ii p4, ii p5, ii 4, rr b455, rr b487, ii 4, uu, uu, uu, uu]) X515 at_325 rfl rfl ?_
              exact J1 4 (Or.inr (Or.inr (Or.inr (Or.inr (⟨rfl, hc764⟩)))))
            · refine oY 327 X515 at_321 (by decide) (feq hc764).2 ?_
              exact J1 3 (Or.inr (Or.inr (Or.inr (Or.inl ⟨rfl, hc763, hc764⟩))))
          · refine oY 309 X515 at_303 (by decide) (feq hc763).2 <| oi 311 X515 at_309 rfl rfl <| oc 312 (v := 4) X515 at_311 rfl (by decide) <| oN 315 X515 at_312 rfl (flt (by decide)).1 <| oa 317 X515 at_315 rfl rfl <| oc 318 (v := 4) X515 at_317 rfl (by decide) <| oC 319 (v := (.int xi1_481)) X515 f757 ⟨by decide, by decide⟩ rfl at_318 rfl <| ob 321 (v := 47) X515 at_319 rfl (by decide) ?_
            by_cases hc765 : xi1_481 = (47 : Int32)
            · refine oN 324 X515 at_321 rfl (teq hc765).2 <| oc 325 (v := 4) X515 at_324 rfl (by decide) <| oS 327 (l' := #[ii p1, ii p2, ii p3, ii p4, ii p5, ii 4, rr b455, rr b487, ii 4, uu, uu, uu, uu]) X515 at_325 rfl rfl ?_
              exact J1 4 (Or.inr (Or.inr (Or.inr (Or.inr (⟨rfl, hc765⟩)))))
            · refine oY 327 X515 at_321 (by decide) (feq hc765).2 ?_
              exact J1 1 (Or.inr (Or.inl ⟨rfl, hc758, hc759, hc763, hc765⟩))
      · refine oY 273 X515 at_267 (by decide) (feq hc758).2 <| oi 275 X515 at_273 rfl rfl <| oc 276 (v := 2) X515 at_275 rfl (by decide) <| oN 279 X515 at_276 rfl (flt (by decide)).1 <| oa 281 X515 at_279 rfl rfl <| oc 282 (v := 2) X515 at_281 rfl (by decide) <| oC 283 (v := (.int xi1_467)) X515 f757 ⟨by decide, by decide⟩ rfl at_282 rfl <| ob 285 (v := 47) X515 at_283 rfl (by decide) ?_
        by_cases hc766 : xi1_467 = (47 : Int32)
        · refine oN 288 X515 at_285 rfl (teq hc766).2 <| oc 289 (v := 2) X515 at_288 rfl (by decide) <| oS 291 (l' := #[ii p1, ii p2, ii p3, ii p4, ii p5, ii 4, rr b455, rr b487, ii 2, uu, uu, uu, uu]) X515 at_289 rfl rfl <| oi 293 X515 at_291 rfl rfl <| oc 294 (v := 3) X515 at_293 rfl (by decide) <| oN 297 X515 at_294 rfl (flt (by decide)).1 <| oa 299 X515 at_297 rfl rfl <| oc 300 (v := 3) X515 at_299 rfl (by decide) <| oC 301 (v := (.int xi1_474)) X515 f757 ⟨by decide, by decide⟩ rfl at_300 rfl <| ob 303 (v := 47) X515 at_301 rfl (by decide) ?_
          by_cases hc767 : xi1_474 = (47 : Int32)
          · refine oN 306 X515 at_303 rfl (teq hc767).2 <| oc 307 (v := 3) X515 at_306 rfl (by decide) <| oS 309 (l' := #[ii p1, ii p2, ii p3, ii p4, ii p5, ii 4, rr b455, rr b487, ii 3, uu, uu, uu, uu]) X515 at_307 rfl rfl <| oi 311 X515 at_309 rfl rfl <| oc 312 (v := 4) X515 at_311 rfl (by decide) <| oN 315 X515 at_312 rfl (flt (by decide)).1 <| oa 317 X515 at_315 rfl rfl <| oc 318 (v := 4) X515 at_317 rfl (by decide) <| oC 319 (v := (.int xi1_481)) X515 f757 ⟨by decide, by decide⟩ rfl at_318 rfl <| ob 321 (v := 47) X515 at_319 rfl (by decide) ?_
            by_cases hc768 : xi1_481 = (47 : Int32)
            · refine oN 324 X515 at_321 rfl (teq hc768).2 <| oc 325 (v := 4) X515 at_324 rfl (by decide) <| oS 327 (l' := #[ii p1, ii p2, ii p3, ii p4, ii p5, ii 4, rr b455, rr b487, ii 4, uu, uu, uu, uu]) X515 at_325 rfl rfl ?_
              exact J1 4 (Or.inr (Or.inr (Or.inr (Or.inr (⟨rfl, hc768⟩)))))
            · refine oY 327 X515 at_321 (by decide) (feq hc768).2 ?_
              exact J1 3 (Or.inr (Or.inr (Or.inr (Or.inl ⟨rfl, hc767, hc768⟩))))
          · refine oY 309 X515 at_303 (by decide) (feq hc767).2 <| oi 311 X515 at_309 rfl rfl <| oc 312 (v := 4) X515 at_311 rfl (by decide) <| oN 315 X515 at_312 rfl (flt (by decide)).1 <| oa 317 X515 at_315 rfl rfl <| oc 318 (v := 4) X515 at_317 rfl (by decide) <| oC 319 (v := (.int xi1_481)) X515 f757 ⟨by decide, by decide⟩ rfl at_318 rfl <| ob 321 (v := 47) X515 at_319 rfl (by decide) ?_
            by_cases hc769 : xi1_481 = (47 : Int32)
            · refine oN 324 X515 at_321 rfl (teq hc769).2 <| oc 325 (v := 4) X515 at_324 rfl (by decide) <| oS 327 (l' := #[ii p1, ii p2, ii p3, ii p4, ii p5, ii 4, rr b455, rr b487, ii 4, uu, uu, uu, uu]) X515 at_325 rfl rfl ?_
              exact J1 4 (Or.inr (Or.inr (Or.inr (Or.inr (⟨rfl, hc769⟩)))))
            · refine oY 327 X515 at_321 (by decide) (feq hc769).2 ?_
              exact J1 2 (Or.inr (Or.inr (Or.inl ⟨rfl, hc766, hc767, hc769⟩)))
        · refine oY 291 X515 at_285 (by decide) (feq hc766).2 <| oi 293 X515 at_291 rfl rfl <| oc 294 (v := 3) X515 at_293 rfl (by decide) <| oN 297 X515 at_294 rfl (flt (by decide)).1 <| oa 299 X515 at_297 rfl rfl <| oc 300 (v := 3) X515 at_299 rfl (by decide) <| oC 301 (v := (.int xi1_474)) X515 f757 ⟨by decide, by decide⟩ rfl at_300 rfl <| ob 303 (v := 47) X515 at_301 rfl (by decide) ?_
          by_cases hc770 : xi1_474 = (47 : Int32)
          · refine oN 306 X515 at_303 rfl (teq hc770).2 <| oc 307 (v := 3) X515 at_306 rfl (by decide) <| oS 309 (l' := #[ii p1, ii p2, ii p3, ii p4, ii p5, ii 4, rr b455, rr b487, ii 3, uu, uu, uu, uu]) X515 at_307 rfl rfl <| oi 311 X515 at_309 rfl rfl <| oc 312 (v := 4) X515 at_311 rfl (by decide) <| oN 315 X515 at_312 rfl (flt (by decide)).1 <| oa 317 X515 at_315 rfl rfl <| oc 318 (v := 4) X515 at_317 rfl (by decide) <| oC 319 (v := (.int xi1_481)) X515 f757 ⟨by decide, by decide⟩ rfl at_318 rfl <| ob 321 (v := 47) X515 at_319 rfl (by decide) ?_
            by_cases hc771 : xi1_481 = (47 : Int32)
            · refine oN 324 X515 at_321 rfl (teq hc771).2 <| oc 325 (v := 4) X515 at_324 rfl (by decide) <| oS 327 (l' := #[ii p1, ii p2, ii p3, ii p4, ii p5, ii 4, rr b455, rr b487, ii 4, uu, uu, uu, uu]) X515 at_325 rfl rfl ?_
              exact J1 4 (Or.inr (Or.inr (Or.inr (Or.inr (⟨rfl, hc771⟩)))))
            · refine oY 327 X515 at_321 (by decide) (feq hc771).2 ?_
              exact J1 3 (Or.inr (Or.inr (Or.inr (Or.inl ⟨rfl, hc770, hc771⟩))))
          · refine oY 309 X515 at_303 (by decide) (feq hc770).2 <| oi 311 X515 at_309 rfl rfl <| oc 312 (v := 4) X515 at_311 rfl (by decide) <| oN 315 X515 at_312 rfl (flt (by decide)).1 <| oa 317 X515 at_315 rfl rfl <| oc 318 (v := 4) X515 at_317 rfl (by decide) <| oC 319 (v := (.int xi1_481)) X515 f757 ⟨by decide, by decide⟩ rfl at_318 rfl <| ob 321 (v := 47) X515 at_319 rfl (by decide) ?_
            by_cases hc772 : xi1_481 = (47 : Int32)
            · refine oN 324 X515 at_321 rfl (teq hc772).2 <| oc 325 (v := 4) X515 at_324 rfl (by decide) <| oS 327 (l' := #[ii p1, ii p2, ii p3, ii p4, ii p5, ii 4, rr b455, rr b487, ii 4, uu, uu, uu, uu]) X515 at_325 rfl rfl ?_
              exact J1 4 (Or.inr (Or.inr (Or.inr (Or.inr (⟨rfl, hc772⟩)))))
            · refine oY 327 X515 at_321 (by decide) (feq hc772).2 ?_
              exact J1 0 (Or.inl ⟨rfl, hc758, hc766, hc770, hc772⟩)
end Walks
set_option maxRecDepth 65536 in
set_option maxHeartbeats 40000000 in
theorem comes_1 {Post : Tables → Env → Array Value → State → Outcome → State → Prop} (hpost : ∀ tb e args s v u, (limb_1_1.after args s (.returned v) u = true ∧ limb_1_2.after args s (.returned v) u = true ∧ True) → ReturnedEndW s (.returned v) u (Jvm.fieldLocs frame_1_writes args s ++ Jvm.arrayLocs frame_1_arrays args s ++ Jvm.staticLocs frame_1_statics s) 32 1216 → Post tb e args s (.returned v) u) :
    ArmFor flags0 classFile x code maxLocals ret World_1 tables_1 room_1 Calls_1 rest_1 Pre_1 Post := by
  intro l hfl _ _ p e ha hc hk s m args below hf hA hF happ hP
  obtain ⟨hcalls, hrest, hpre⟩ := hP
  obtain ⟨-, -, -, hnamed, -, -, -, hat⟩ := (Spec.applies_iff hf).mp happ
  obtain ⟨hg, hn⟩ := and_e (Cond.before_iff.mp (show (Jvm.Cond.and given_1 narrow_1).before args s = true from hpre))
  obtain ⟨g0, gt0⟩ := and_e hg
  obtain ⟨ga0, gt1⟩ := and_e gt0
  obtain ⟨ga1, gt2⟩ := and_e gt1
  obtain ⟨ga2, gt3⟩ := and_e gt2
  obtain ⟨ga3, gt4⟩ := and_e gt3
  obtain ⟨v0, v1, v2, v3, v4, rfl⟩ : ∃ v0 v1 v2 v3 v4 : Value, args = #[v0, v1, v2, v3, v4] := by
    have hs : args.size = 5 := by simpa [Cond.value, given_1] using g0
    obtain ⟨L⟩ := args
    match L, hs with
    | [v0, v1, v2, v3, v4], _ => exact ⟨v0, v1, v2, v3, v4, rfl⟩
  have hw := fun d (hd : d ∈ tables_1) => atoms_spec (ws := Jvm.Cond.code x code maxLocals ret :: tables_1) hat d (List.mem_cons_of_mem _ hd)
  have hfit : Fit s := fun {y c} hc i hi => by
    obtain ⟨ha, rfl⟩ := Array.getElem?_eq_some_iff.mp hc
    have q := List.all_eq_true.mp ((Array.all_eq_true_iff_forall_mem.mp hF) _ (Array.getElem_mem ha)) i (List.mem_range.mpr hi)
    simpa [Array.getElem?_eq_getElem hi] using q
  obtain ⟨hsets, hown0⟩ := atoms_of _ (rest_1_c_eq ▸ (show rest_1_c.before _ s = true from hrest))
  obtain ⟨i0, ei0⟩ := is_v ga0
  obtain rfl : v0 = (.int i0) := Option.some.inj ei0
  obtain ⟨i1, ei1⟩ := is_v ga1
  obtain rfl : v1 = (.int i1) := Option.some.inj ei1
  obtain ⟨i2, ei2⟩ := is_v ga2
  obtain rfl : v2 = (.int i2) := Option.some.inj ei2
  obtain ⟨i3, ei3⟩ := is_v ga3
  obtain rfl : v3 = (.int i3) := Option.some.inj ei3
  obtain ⟨i4, ei4⟩ := is_v gt4
  obtain rfl : v4 = (.int i4) := Option.some.inj ei4
  obtain ⟨zc, ezc⟩ := is_v (Cond.before_iff.mp (hsets _ (List.mem_of_getElem? (i := 1) rfl)))
  have S_zc : Sta s s.heap "java/lang/String" "COMPACT_STRINGS" "Z" (.int zc) := Sta.start ezc (Or.inl (hsets _ (List.mem_of_getElem? (i := 0) rfl)))
  have hzc : ¬ (zc = (0 : Int32)) := gotF (Cond.eq_ints ezc (Term.int_eval (0))) (not_v (Cond.before_iff.mp (hsets _ (List.mem_of_getElem? (i := 2) rfl))))
  have hEW := (EW.cons (w_96 hw) (by decide) EW.nil)
  have hCH0 : CHv s [("java/lang/StringLatin1", 151)] s.vm s.heap := CHv.start hEW (fun p hp => hcalls.1 p hp) (hsets _ (List.mem_of_getElem? (i := 2) rfl)) (w_24 hw) (w_7 hw)
  have hKn0 : KnP false s.vm below := fun q => nomatch q
  obtain ⟨fmt, efmt, hfmt⟩ := Cond.isRef_spec (hsets _ (List.mem_of_getElem? (i := 8) rfl))
  have S_fmt := Sta.start efmt (Or.inl (hsets _ (List.mem_of_getElem? (i := 7) rfl)))
  obtain ⟨n, o, h1, h2, h3, _, L, rfl, ⟨N, -, rfl⟩, -, hq⟩ := rm_law (G := (⟨hw, S_zc, hzc, hEW, S_fmt, hfmt⟩ : GL l s _ zc fmt)) tables_1 i0 i1 i2 i3 i4 (Old.start s) p e ha hc hk s m _ below hf ((Spec.applies_iff_loose hf).mp happ).1 ⟨rfl, State.Warmed39.refl s, rfl, hCH0, fun _ q => nomatch q⟩ hKn0
  refine ⟨n, _, h1, h2, h3, hpost _ _ _ _ _ _ ⟨Cond.after_iff.mpr rfl, Cond.after_iff.mpr (eq_i res_at (Term.int_eval (1)) rfl), trivial⟩ ⟨hq.1, hq.2.1, hq.2.2.1, (hq.2.2.2.sift fun y hy => Or.inr (N y hy)).mono (by decide) (by decide)⟩⟩
theorem main_1_1 : Claimed_1_1 := comes_1 fun _ _ _ _ _ _ h hF => ⟨h.1, hF⟩
theorem main_1_2 : Claimed_1_2 := comes_1 fun _ _ _ _ _ _ h hF => ⟨h.2.1, hF⟩
end Jvm.Pilot.@@N@@
namespace Jvm.Pilot.@@N@@
open Jvm Jvm.ClassFile Sem Op Lib Jvm.Free Jvm.Stand Jvm.Pilot.@@N@@.Jvm.D
/-! MADE BY PROGRAM (witnessworld.py) out of the Statement's table words and the real class files: 21 classes; the members and pool entries that the words name. The judged class is class 1, her method 2. -/
namespace start1
open Jvm.ClassFile
def u (s : String) : CpInfo := .utf8 (stringToUtf16 s)
/-- a pool by its gaps: so many unusable entries, then the entry; so many at the end -/
def gap : Nat → List CpInfo → List CpInfo
  | 0, r => r
  | n + 1, r => .unusable :: gap n r
def poolList (es : List (Nat × CpInfo)) (last : Nat) : List CpInfo := es.foldr (fun e r => gap e.1 (e.2 :: r)) (gap last [])
def pool (es : List (Nat × CpInfo)) (last : Nat) : Array CpInfo := ⟨poolList es last⟩
def fileOf (pool : Array CpInfo) (this : Nat) (attrs : Array Attribute := #[]) (ms : Array MethodInfo := #[]) (fl : Nat := 33) (sup : Nat := 0) (ifs : Array Nat := #[]) (fds : Array FieldInfo := #[]) : ClassFile where
  minorVersion := 0
  majorVersion := 65
  constantPool := pool
  accessFlags := fl
  thisClass := this
  superClass := sup
  interfaces := ifs
  fields := fds
  methods := ms
  attributes := attrs
def plain (name : String) (sup : Option ClassId) : Class where
  name := name
  kind := .ordinary
  loader := none
  accessFlags := 33
  super := sup
  interfaces := #[]
  cf := none
  fields := #[]
  methods := #[]
  instanceTypes := #[]
  staticTypes := #[]
  resolved := #[]
  callSites := []
  init := .initialized
  statics := none
  mirror := none

def pool0 : Array CpInfo := pool [(5, u "<init>"), (0, u "()V"), (1, .class_ 10), (1, u "java/lang/Object")] 113

def k0c0 : Code := ⟨0, 1, object_method_1_code, #[], #[]⟩
def k0m0 : Method := ⟨"<init>", "()V", ⟨[], none⟩, 1, some k0c0⟩
/-- java/lang/Object -/
def k0 : Class := { plain "java/lang/Object" none with
  accessFlags := 33
  interfaces := #[]
  cf := some (fileOf pool0 8 #[] #[⟨1, 5, 6, #[]⟩] 33 0 #[] #[])
  fields := #[]
  methods := #[k0m0]
  instanceTypes := #[]
  staticTypes := #[]
  resolved := Array.replicate 124 none
  statics := none }

def pool1 : Array CpInfo := pool [(2, .class_ 4), (1, u "java/lang/Object"), (0, u "<init>"), (0, u "()V"), (0, .integer 2147483647), (0, .methodref 9 10), (0, .class_ 11), (0, .nameAndType 12 13), (0, u "com/example/web_whiteboard/webwhiteboard/context/ServletPatternExtensionPinLaw"), (0, u "draw"), (0, u "(I)C"), (0, .class_ 15), (0, u "java/lang/String"), (0, .methodref 14 17), (0, .nameAndType 5 18), (0, u "([C)V"), (0, .methodref 20 21), (0, .class_ 22), (0, .nameAndType 23 24), (0, u "com/example/web_whiteboard/webwhiteboard/context/ServletPattern"), (0, u "extension"), (0, u "(Ljava/lang/String;)Ljava/lang/String;"), (0, .methodref 14 26), (0, .nameAndType 27 28), (0, u "length"), (0, u "()I"), (0, .methodref 14 30), (0, .nameAndType 31 13), (0, u "charAt"), (3, u "law"), (0, u "(IIIII)Z")] 4

def k1m0 : Method := ⟨"<init>", "()V", ⟨[], none⟩, 1, none⟩
def k1c1 : Code := ⟨2, 2, method_2_code, #[], #[]⟩
def k1m1 : Method := ⟨"draw", "(I)C", ⟨[.int], some .char⟩, 10, some k1c1⟩
def k1c2 : Code := ⟨7, 13, code, #[], #[]⟩
def k1m2 : Method := ⟨"law", "(IIIII)Z", ⟨[.int, .int, .int, .int, .int], some .boolean⟩, 9, some k1c2⟩
/-- com/example/web_whiteboard/webwhiteboard/context/ServletPatternExtensionPinLaw -/
def k1 : Class := { plain "com/example/web_whiteboard/webwhiteboard/context/ServletPatternExtensionPinLaw" (some 0) with
  accessFlags := 49
  interfaces := #[]
  cf := some (fileOf pool1 9 #[] #[⟨1, 5, 6, #[]⟩, ⟨10, 12, 13, #[]⟩, ⟨9, 35, 36, #[]⟩] 49 2 #[] #[])
  fields := #[]
  methods := #[k1m0, k1m1, k1m2]
  instanceTypes := #[]
  staticTypes := #[]
  resolved := Array.replicate 41 none
  statics := none }

def pool2 : Array CpInfo := pool [(1, .class_ 2), (0, u "java/io/Serializable"), (0, .class_ 4), (0, u "java/lang/Object")] 2

/-- java/io/Serializable -/
def k2 : Class := { plain "java/io/Serializable" (some 0) with
  accessFlags := 1537
  interfaces := #[]
  cf := some (fileOf pool2 1 #[] #[] 1537 3 #[] #[])
  fields := #[]
  methods := #[]
  instanceTypes := #[]
  staticTypes := #[]
  resolved := Array.replicate 7 none
  statics := none }

def pool3 : Array CpInfo := pool [(1, .class_ 2), (0, u "java/lang/Comparable"), (0, .class_ 4), (0, u "java/lang/Object")] 7

/-- java/lang/Comparable -/
def k3 : Class := { plain "java/lang/Comparable" (some 0) with
  accessFlags := 1537
  interfaces := #[]
  cf := some (fileOf pool3 1 #[] #[] 1537 3 #[] #[])
  fields := #[]
  methods := #[]
  instanceTypes := #[]
  staticTypes := #[]
  resolved := Array.replicate 12 none
  statics := none }

def pool4 : Array CpInfo := pool [(2, .class_ 4), (1, u "java/lang/CharSequence"), (42, .class_ 48), (0, u "java/lang/CharSequence$1CodePointIterator"), (10, .class_ 60), (0, u "java/lang/CharSequence$1CharIterator"), (5, .class_ 67), (0, u "java/lang/Object")] 63

/-- java/lang/CharSequence -/
def k4 : Class := { plain "java/lang/CharSequence" (some 0) with
  accessFlags := 1537
  interfaces := #[]
  cf := some (fileOf pool4 2 #[.nestMembers #[47, 59]] #[] 1537 66 #[] #[])
  fields := #[]
  methods := #[]
  instanceTypes := #[]
  staticTypes := #[]
  resolved := Array.replicate 131 none
  statics := none }

def pool5 : Array CpInfo := pool [(1, .class_ 2), (0, u "java/lang/constant/Constable"), (0, .class_ 4), (0, u "java/lang/Object")] 6

/-- java/lang/constant/Constable -/
def k5 : Class := { plain "java/lang/constant/Constable" (some 0) with
  accessFlags := 1537
  interfaces := #[]
  cf := some (fileOf pool5 1 #[] #[] 1537 3 #[] #[])
  fields := #[]
  methods := #[]
  instanceTypes := #[]
  staticTypes := #[]
  resolved := Array.replicate 11 none
  statics := none }

def pool6 : Array CpInfo := pool [(1, .class_ 2), (0, u "java/lang/constant/ConstantDesc"), (0, .class_ 4), (0, u "java/lang/Object")] 32

/-- java/lang/constant/ConstantDesc -/
def k6 : Class := { plain "java/lang/constant/ConstantDesc" (some 0) with
  accessFlags := 1537
  interfaces := #[]
  cf := some (fileOf pool6 1 #[] #[] 1537 3 #[] #[])
  fields := #[]
  methods := #[]
  instanceTypes := #[]
  staticTypes := #[]
  resolved := Array.replicate 37 none
  statics := none }

def pool7 : Array CpInfo := pool [(1, .methodref 2 3), (0, .class_ 4), (0, .nameAndType 5 6), (0, u "java/lang/Object"), (0, u "<init>"), (0, u "()V"), (2, .fieldref 10 11), (0, .class_ 12), (0, .nameAndType 13 14), (0, u "java/lang/String"), (0, u "value"), (0, u "[B"), (0, .fieldref 10 16), (0, .nameAndType 17 18), (0, u "coder"), (0, u "B"), (2, u "hash"), (0, u "I"), (2, u "hashIsZero"), (0, u "Z"), (0, .methodref 10 28), (0, .nameAndType 5 29), (0, u "([CIILjava/lang/Void;)V"), (8, .fieldref 10 39), (0, .nameAndType 40 26), (0, u "COMPACT_STRINGS"), (1, .class_ 44), (1, u "java/lang/StringUTF16"), (0, u "compress"), (1, .methodref 42 48), (0, .nameAndType 49 50), (0, u "coderFromArrayLen"), (0, u "([BI)B"), (46, u "([BII)I"), (9, .class_ 109), (1, u "java/lang/StringLatin1"), (32, u "()Z"), (34, .methodref 42 178), (0, .nameAndType 45 179), (0, u "([CII)[B"), (31, u "([BB)V"), (122, u "()I"), (0, .methodref 10 336), (0, .nameAndType 17 337), (0, u "()B"), (25, u "([BI)C"), (27, u "(II)V"), (35, u "(I)C"), (64, .methodref 10 493), (0, .nameAndType 494 142), (0, u "isLatin1"), (0, .methodref 107 496), (0, .nameAndType 497 363), (0, u "charAt"), (3, u "checkIndex"), (3, .methodref 10 506), (0, .nameAndType 507 334), (0, u "length"), (5, u "checkFromToIndex"), (7, .methodref 10 522), (0, .nameAndType 523 524), (0, u "checkBoundsBeginEnd"), (0, u "(III)V"), (50, .class_ 576), (0, u "java/lang/CharSequence"), (22, u "CASE_INSENSITIVE_ORDER"), (0, u "Ljava/util/Comparator;"), (35, u "(II)I"), (4, .methodref 10 642), (0, .nameAndType 643 636), (0, u "lastIndexOf"), (0, .methodref 107 645), (0, .nameAndType 643 97), (35, .methodref 10 682), (0, .nameAndType 683 684), (0, u "substring"), (0, u "(II)Ljava/lang/String;"), (0, .methodref 107 686), (0, .nameAndType 687 688), (0, u "newString"), (0, u "([BII)Ljava/lang/String;"), (76, u "(I)I"), (126, u "(I)Ljava/lang/String;"), (117, u "([C)V"), (42, .fieldref 1054 1055), (0, .class_ 1056), (0, .nameAndType 1057 1058), (0, u "jdk/internal/util/Preconditions"), (0, u "SIOOBE_FORMATTER"), (0, u "Ljava/util/function/BiFunction;"), (0, .methodref 1054 1060), (0, .nameAndType 501 1061), (0, u "(IILjava/util/function/BiFunction;)I"), (0, .methodref 1054 1063), (0, .nameAndType 513 1064), (0, u "(IIILjava/util/function/BiFunction;)I"), (36, u "serialPersistentFields"), (0, u "[Ljava/io/ObjectStreamField;"), (0, .class_ 1104), (0, u "java/lang/String$CaseInsensitiveComparator"), (1, .class_ 1107), (0, u "java/io/Serializable"), (0, .class_ 1109), (0, u "java/lang/Comparable"), (0, .class_ 1111), (0, u "java/lang/constant/Constable"), (0, .class_ 1113), (0, u "java/lang/constant/ConstantDesc"), (2, u "serialVersionUID"), (0, u "J"), (3, u "REPL"), (0, u "C"), (2, u "LATIN1"), (1, u "UTF16")] 323

def k7m0 : Method := ⟨"<init>", "()V", ⟨[], none⟩, 1, none⟩
def k7c1 : Code := ⟨5, 2, jdk_42_method_3_code, #[], #[]⟩
def k7m1 : Method := ⟨"<init>", "([C)V", ⟨[(.array .char)], none⟩, 1, some k7c1⟩
def k7c2 : Code := ⟨2, 1, jdk_42_method_54_code, #[], #[]⟩
def k7m2 : Method := ⟨"length", "()I", ⟨[], some .int⟩, 1, some k7c2⟩
def k7c3 : Code := ⟨2, 2, jdk_42_method_56_code, #[], #[]⟩
def k7m3 : Method := ⟨"charAt", "(I)C", ⟨[.int], some .char⟩, 1, some k7c3⟩
def k7c4 : Code := ⟨4, 2, jdk_42_method_82_code, #[], #[]⟩
def k7m4 : Method := ⟨"lastIndexOf", "(I)I", ⟨[.int], some .int⟩, 1, some k7c4⟩
def k7c5 : Code := ⟨3, 3, jdk_42_method_83_code, #[], #[]⟩
def k7m5 : Method := ⟨"lastIndexOf", "(II)I", ⟨[.int, .int], some .int⟩, 1, some k7c5⟩
def k7c6 : Code := ⟨3, 2, jdk_42_method_91_code, #[], #[]⟩
def k7m6 : Method := ⟨"substring", "(I)Ljava/lang/String;", ⟨[.int], some (.object "java/lang/String")⟩, 1, some k7c6⟩
def k7c7 : Code := ⟨3, 5, jdk_42_method_92_code, #[], #[]⟩
def k7m7 : Method := ⟨"substring", "(II)Ljava/lang/String;", ⟨[.int, .int], some (.object "java/lang/String")⟩, 1, some k7c7⟩
def k7c8 : Code := ⟨4, 6, jdk_42_method_149_code, #[], #[]⟩
def k7m8 : Method := ⟨"<init>", "([CIILjava/lang/Void;)V", ⟨[(.array .char), .int, .int, (.object "java/lang/Void")], none⟩, 2, some k7c8⟩
def k7c9 : Code := ⟨2, 3, jdk_42_method_151_code, #[], #[]⟩
def k7m9 : Method := ⟨"<init>", "([BB)V", ⟨[(.array .byte), .byte], none⟩, 0, some k7c9⟩
def k7c10 : Code := ⟨1, 1, jdk_42_method_152_code, #[], #[]⟩
def k7m10 : Method := ⟨"coder", "()B", ⟨[], some .byte⟩, 0, some k7c10⟩
def k7c11 : Code := ⟨1, 1, jdk_42_method_154_code, #[], #[]⟩
def k7m11 : Method := ⟨"isLatin1", "()Z", ⟨[], some .boolean⟩, 0, some k7c11⟩
def k7c12 : Code := ⟨3, 2, jdk_42_method_155_code, #[], #[]⟩
def k7m12 : Method := ⟨"checkIndex", "(II)V", ⟨[.int, .int], none⟩, 8, some k7c12⟩
def k7c13 : Code := ⟨4, 3, jdk_42_method_158_code, #[], #[]⟩
def k7m13 : Method := ⟨"checkBoundsBeginEnd", "(III)V", ⟨[.int, .int, .int], none⟩, 8, some k7c13⟩
/-- java/lang/String -/
def k7 : Class := { plain "java/lang/String" (some 0) with
  accessFlags := 49
  interfaces := #[2, 3, 4, 5, 6]
  cf := some (fileOf pool7 10 #[.nestMembers #[1103]] #[⟨1, 5, 6, #[]⟩, ⟨1, 5, 1010, #[]⟩, ⟨1, 507, 334, #[]⟩, ⟨1, 497, 427, #[]⟩, ⟨1, 643, 765, #[]⟩, ⟨1, 643, 636, #[]⟩, ⟨1, 683, 892, #[]⟩, ⟨1, 683, 684, #[]⟩, ⟨2, 5, 29, #[]⟩, ⟨0, 5, 211, #[]⟩, ⟨0, 17, 337, #[]⟩, ⟨0, 494, 142, #[]⟩, ⟨8, 501, 391, #[]⟩, ⟨8, 523, 524, #[]⟩] 49 2 #[1106, 1108, 575, 1110, 1112] #[⟨18, 13, 14, #[]⟩, ⟨18, 17, 18, #[]⟩, ⟨2, 21, 22, #[]⟩, ⟨2, 25, 26, #[]⟩, ⟨26, 1116, 1117, #[]⟩, ⟨24, 40, 26, #[]⟩, ⟨26, 1101, 1102, #[]⟩, ⟨26, 1121, 1122, #[]⟩, ⟨25, 599, 600, #[]⟩, ⟨24, 1125, 18, #[]⟩, ⟨24, 1127, 18, #[]⟩])
  fields := #[⟨"value", (.array .byte), 18, 0, 0⟩, ⟨"coder", .byte, 18, 1, 0⟩, ⟨"hash", .int, 2, 2, 0⟩, ⟨"hashIsZero", .boolean, 2, 3, 0⟩, ⟨"serialVersionUID", .long, 26, 0, 0⟩, ⟨"COMPACT_STRINGS", .boolean, 24, 1, 0⟩, ⟨"serialPersistentFields", (.array (.object "java/io/ObjectStreamField")), 26, 2, 0⟩, ⟨"REPL", .char, 26, 3, 0⟩, ⟨"CASE_INSENSITIVE_ORDER", (.object "java/util/Comparator"), 25, 4, 0⟩, ⟨"LATIN1", .byte, 24, 5, 0⟩, ⟨"UTF16", .byte, 24, 6, 0⟩]
  methods := #[k7m0, k7m1, k7m2, k7m3, k7m4, k7m5, k7m6, k7m7, k7m8, k7m9, k7m10, k7m11, k7m12, k7m13]
  instanceTypes := #[(.array .byte), .byte, .int, .boolean]
  staticTypes := #[.long, .boolean, (.array (.object "java/io/ObjectStreamField")), .char, (.object "java/util/Comparator"), .byte, .byte]
  resolved := Array.replicate 1451 none
  statics := some 0 }

def pool8 : Array CpInfo := pool [(6, .class_ 8), (1, u "java/lang/Object"), (0, u "<init>"), (0, u "()V"), (1, .class_ 14), (1, u "java/lang/StringUTF16"), (31, u "$assertionsDisabled"), (0, u "Z"), (13, u "HI_BYTE_SHIFT"), (0, u "I"), (2, u "LO_BYTE_SHIFT"), (49, .methodref 12 116), (0, .nameAndType 117 118), (0, u "compress"), (0, u "([CI[BII)I"), (3, u "([CII)[B"), (138, u "coderFromArrayLen"), (0, u "([BI)B"), (106, .class_ 371), (1, u "java/lang/StringUTF16$LinesSpliterator"), (58, u "MAX_LENGTH"), (196, .class_ 628), (0, u "java/lang/StringUTF16$CodePointsSpliterator"), (0, .class_ 630), (0, u "java/lang/StringUTF16$CharsSpliterator")] 4

def k8m0 : Method := ⟨"<init>", "()V", ⟨[], none⟩, 0, none⟩
def k8c1 : Code := ⟨2, 2, jdk_52_method_15_code, #[], #[]⟩
def k8m1 : Method := ⟨"coderFromArrayLen", "([BI)B", ⟨[(.array .byte), .int], some .byte⟩, 8, some k8c1⟩
def k8c2 : Code := ⟨5, 6, jdk_52_method_16_code, #[], #[]⟩
def k8m2 : Method := ⟨"compress", "([CII)[B", ⟨[(.array .char), .int, .int], some (.array .byte)⟩, 9, some k8c2⟩
def k8c3 : Code := ⟨3, 7, jdk_52_method_21_code, #[], #[]⟩
def k8m3 : Method := ⟨"compress", "([CI[BII)I", ⟨[(.array .char), .int, (.array .byte), .int, .int], some .int⟩, 9, some k8c3⟩
/-- java/lang/StringUTF16 -/
def k8 : Class := { plain "java/lang/StringUTF16" (some 0) with
  accessFlags := 48
  interfaces := #[]
  cf := some (fileOf pool8 12 #[.nestMembers #[627, 629, 369]] #[⟨0, 9, 10, #[]⟩, ⟨8, 261, 262, #[]⟩, ⟨9, 117, 122, #[]⟩, ⟨9, 117, 118, #[]⟩] 48 6 #[] #[⟨26, 61, 62, #[]⟩, ⟨26, 65, 62, #[]⟩, ⟨24, 430, 62, #[]⟩, ⟨4120, 46, 47, #[]⟩])
  fields := #[⟨"HI_BYTE_SHIFT", .int, 26, 0, 0⟩, ⟨"LO_BYTE_SHIFT", .int, 26, 1, 0⟩, ⟨"MAX_LENGTH", .int, 24, 2, 0⟩, ⟨"$assertionsDisabled", .boolean, 4120, 3, 0⟩]
  methods := #[k8m0, k8m1, k8m2, k8m3]
  instanceTypes := #[]
  staticTypes := #[.int, .int, .int, .boolean]
  resolved := Array.replicate 635 none
  statics := none }

def pool9 : Array CpInfo := pool [(2, .class_ 4), (1, u "java/lang/Object"), (3, .class_ 10), (1, u "com/example/web_whiteboard/webwhiteboard/context/ServletPattern"), (0, u "pattern"), (0, u "Ljava/lang/String;"), (2, u "kind"), (0, u "Lcom/example/web_whiteboard/webwhiteboard/context/ServletPattern$Kind;"), (2, u "stem"), (8, .class_ 30), (1, u "java/lang/String"), (19, .class_ 52), (1, u "com/example/web_whiteboard/webwhiteboard/context/ServletPattern$Kind"), (22, u "substring"), (4, .methodref 28 81), (0, .nameAndType 75 82), (0, u "(I)Ljava/lang/String;"), (6, u "(I)I"), (8, u "(Ljava/lang/String;)Ljava/lang/String;"), (19, .class_ 119), (0, u "com/example/web_whiteboard/webwhiteboard/context/ServletPattern$Match"), (22, u "extension"), (0, .methodref 28 144), (0, .nameAndType 145 89), (0, u "lastIndexOf")] 40

def k9c0 : Code := ⟨3, 3, prog_4_method_11_code, #[], #[]⟩
def k9m0 : Method := ⟨"extension", "(Ljava/lang/String;)Ljava/lang/String;", ⟨[(.object "java/lang/String")], some (.object "java/lang/String")⟩, 8, some k9c0⟩
/-- com/example/web_whiteboard/webwhiteboard/context/ServletPattern -/
def k9 : Class := { plain "com/example/web_whiteboard/webwhiteboard/context/ServletPattern" (some 0) with
  accessFlags := 33
  interfaces := #[]
  cf := some (fileOf pool9 8 #[.nestMembers #[118, 50]] #[⟨8, 142, 98, #[]⟩] 33 2 #[] #[⟨18, 11, 12, #[]⟩, ⟨18, 15, 16, #[]⟩, ⟨18, 19, 12, #[]⟩])
  fields := #[⟨"pattern", (.object "java/lang/String"), 18, 0, 0⟩, ⟨"kind", (.object "com/example/web_whiteboard/webwhiteboard/context/ServletPattern$Kind"), 18, 1, 0⟩, ⟨"stem", (.object "java/lang/String"), 18, 2, 0⟩]
  methods := #[k9m0]
  instanceTypes := #[(.object "java/lang/String"), (.object "com/example/web_whiteboard/webwhiteboard/context/ServletPattern$Kind"), (.object "java/lang/String")]
  staticTypes := #[]
  resolved := Array.replicate 186 none
  statics := none }

def pool10 : Array CpInfo := pool [(1, .class_ 2), (0, u "java/lang/String"), (1, .class_ 6), (1, u "java/lang/Object"), (0, u "<init>"), (0, u "()V"), (0, .methodref 1 10), (0, .nameAndType 11 12), (0, u "checkIndex"), (0, u "(II)V"), (1, .class_ 16), (1, u "java/lang/StringLatin1"), (21, .methodref 39 40), (0, .class_ 41), (0, .nameAndType 42 43), (0, u "java/lang/Math"), (0, u "min"), (0, u "(II)I"), (9, u "([BI)C"), (34, .methodref 14 89), (0, .nameAndType 90 91), (0, u "canEncode"), (0, u "(I)Z"), (20, .methodref 1 113), (0, .nameAndType 7 114), (0, u "([BB)V"), (6, u "$assertionsDisabled"), (0, u "Z"), (8, .class_ 133), (1, u "java/util/Arrays"), (17, .string 152), (0, u ""), (43, u "newString"), (0, u "([BII)Ljava/lang/String;"), (23, .class_ 223), (1, u "java/lang/StringLatin1$LinesSpliterator"), (8, .methodref 131 233), (0, .nameAndType 234 235), (0, u "copyOfRange"), (0, u "([BII)[B"), (16, u "charAt"), (8, u "([BII)I"), (47, u "lastIndexOf"), (80, .class_ 391), (0, u "java/lang/StringLatin1$CharsSpliterator")] 3

def k10m0 : Method := ⟨"<init>", "()V", ⟨[], none⟩, 0, none⟩
def k10c1 : Code := ⟨2, 2, jdk_43_method_2_code, #[], #[]⟩
def k10m1 : Method := ⟨"charAt", "([BI)C", ⟨[(.array .byte), .int], some .char⟩, 9, some k10c1⟩
def k10c2 : Code := ⟨2, 1, jdk_43_method_4_code, #[], #[]⟩
def k10m2 : Method := ⟨"canEncode", "(I)Z", ⟨[.int], some .boolean⟩, 9, some k10c2⟩
def k10c3 : Code := ⟨3, 4, jdk_43_method_27_code, #[], #[]⟩
def k10m3 : Method := ⟨"lastIndexOf", "([BII)I", ⟨[(.array .byte), .int, .int], some .int⟩, 9, some k10c3⟩
def k10c4 : Code := ⟨6, 3, jdk_43_method_47_code, #[], #[]⟩
def k10m4 : Method := ⟨"newString", "([BII)Ljava/lang/String;", ⟨[(.array .byte), .int, .int], some (.object "java/lang/String")⟩, 9, some k10c4⟩
/-- java/lang/StringLatin1 -/
def k10 : Class := { plain "java/lang/StringLatin1" (some 0) with
  accessFlags := 48
  interfaces := #[]
  cf := some (fileOf pool10 14 #[.nestMembers #[390, 221]] #[⟨0, 7, 8, #[]⟩, ⟨9, 252, 53, #[]⟩, ⟨9, 90, 91, #[]⟩, ⟨9, 309, 261, #[]⟩, ⟨9, 196, 197, #[]⟩] 48 4 #[] #[⟨4120, 121, 122, #[]⟩])
  fields := #[⟨"$assertionsDisabled", .boolean, 4120, 0, 0⟩]
  methods := #[k10m0, k10m1, k10m2, k10m3, k10m4]
  instanceTypes := #[]
  staticTypes := #[.boolean]
  resolved := Array.replicate 395 none
  statics := none }

def pool11 : Array CpInfo := pool [(1, .class_ 2), (0, u "java/lang/Math"), (1, .class_ 6), (1, u "java/lang/Object"), (0, u "<init>"), (0, u "()V"), (89, .class_ 100), (1, u "java/lang/Math$RandomNumberGeneratorHolder"), (71, u "negativeZeroFloatBits"), (0, u "J"), (2, u "negativeZeroDoubleBits"), (24, u "min"), (43, u "$assertionsDisabled"), (0, u "Z"), (88, u "(II)I"), (2, u "twoToTheDoubleScaleDown"), (0, u "D"), (4, u "twoToTheDoubleScaleUp"), (9, u "E"), (3, u "PI"), (2, u "TAU"), (2, u "DEGREES_TO_RADIANS"), (0, u "RADIANS_TO_DEGREES")] 94

def k11m0 : Method := ⟨"<init>", "()V", ⟨[], none⟩, 2, none⟩
def k11c1 : Code := ⟨2, 2, jdk_29_method_69_code, #[], #[]⟩
def k11m1 : Method := ⟨"min", "(II)I", ⟨[.int, .int], some .int⟩, 9, some k11c1⟩
/-- java/lang/Math -/
def k11 : Class := { plain "java/lang/Math" (some 0) with
  accessFlags := 49
  interfaces := #[]
  cf := some (fileOf pool11 1 #[.nestMembers #[98]] #[⟨2, 7, 8, #[]⟩, ⟨9, 201, 335, #[]⟩] 49 4 #[] #[⟨25, 354, 339, #[]⟩, ⟨25, 358, 339, #[]⟩, ⟨25, 361, 339, #[]⟩, ⟨26, 364, 339, #[]⟩, ⟨26, 365, 339, #[]⟩, ⟨26, 172, 173, #[]⟩, ⟨26, 176, 173, #[]⟩, ⟨8, 344, 339, #[]⟩, ⟨8, 338, 339, #[]⟩, ⟨4120, 245, 246, #[]⟩])
  fields := #[⟨"E", .double, 25, 0, 0⟩, ⟨"PI", .double, 25, 1, 0⟩, ⟨"TAU", .double, 25, 2, 0⟩, ⟨"DEGREES_TO_RADIANS", .double, 26, 3, 0⟩, ⟨"RADIANS_TO_DEGREES", .double, 26, 4, 0⟩, ⟨"negativeZeroFloatBits", .long, 26, 5, 0⟩, ⟨"negativeZeroDoubleBits", .long, 26, 6, 0⟩, ⟨"twoToTheDoubleScaleUp", .double, 8, 7, 0⟩, ⟨"twoToTheDoubleScaleDown", .double, 8, 8, 0⟩, ⟨"$assertionsDisabled", .boolean, 4120, 9, 0⟩]
  methods := #[k11m0, k11m1]
  instanceTypes := #[]
  staticTypes := #[.double, .double, .double, .double, .double, .long, .long, .double, .double, .boolean]
  resolved := Array.replicate 460 none
  statics := none }

def pool12 : Array CpInfo := pool [(2, .class_ 4), (1, u "java/lang/Object"), (0, u "<init>"), (0, u "()V"), (17, .class_ 26), (1, u "jdk/internal/util/Preconditions"), (6, u "checkIndex"), (13, u "checkFromToIndex"), (7, .class_ 56), (0, u "jdk/internal/util/Preconditions$4"), (57, .class_ 115), (0, u "jdk/internal/util/Preconditions$1"), (7, u "SIOOBE_FORMATTER"), (0, u "Ljava/util/function/BiFunction;"), (0, .class_ 126), (0, u "jdk/internal/util/Preconditions$2"), (3, u "AIOOBE_FORMATTER"), (0, .class_ 132), (0, u "jdk/internal/util/Preconditions$3"), (3, u "IOOBE_FORMATTER"), (41, u "(IILjava/util/function/BiFunction;)I"), (4, u "(IIILjava/util/function/BiFunction;)I")] 10

def k12m0 : Method := ⟨"<init>", "()V", ⟨[], none⟩, 1, none⟩
def k12c1 : Code := ⟨3, 3, jdk_41_method_11_code, #[], #[]⟩
def k12m1 : Method := ⟨"checkIndex", "(IILjava/util/function/BiFunction;)I", ⟨[.int, .int, (.object "java/util/function/BiFunction")], some .int⟩, 9, some k12c1⟩
def k12c2 : Code := ⟨4, 4, jdk_41_method_12_code, #[], #[]⟩
def k12m2 : Method := ⟨"checkFromToIndex", "(IIILjava/util/function/BiFunction;)I", ⟨[.int, .int, .int, (.object "java/util/function/BiFunction")], some .int⟩, 9, some k12c2⟩
/-- jdk/internal/util/Preconditions -/
def k12 : Class := { plain "jdk/internal/util/Preconditions" (some 0) with
  accessFlags := 33
  interfaces := #[]
  cf := some (fileOf pool12 24 #[.nestMembers #[55, 131, 125, 114]] #[⟨1, 5, 6, #[]⟩, ⟨9, 33, 178, #[]⟩, ⟨9, 47, 183, #[]⟩] 33 2 #[] #[⟨25, 123, 124, #[]⟩, ⟨25, 130, 124, #[]⟩, ⟨25, 136, 124, #[]⟩])
  fields := #[⟨"SIOOBE_FORMATTER", (.object "java/util/function/BiFunction"), 25, 0, 0⟩, ⟨"AIOOBE_FORMATTER", (.object "java/util/function/BiFunction"), 25, 1, 0⟩, ⟨"IOOBE_FORMATTER", (.object "java/util/function/BiFunction"), 25, 2, 0⟩]
  methods := #[k12m0, k12m1, k12m2]
  instanceTypes := #[]
  staticTypes := #[(.object "java/util/function/BiFunction"), (.object "java/util/function/BiFunction"), (.object "java/util/function/BiFunction")]
  resolved := Array.replicate 194 none
  statics := some 1 }

def pool13 : Array CpInfo := pool [(2, .class_ 4), (1, u "java/lang/Object"), (0, u "<init>"), (0, u "()V"), (7, .class_ 16), (1, u "java/util/Arrays"), (57, .class_ 76), (1, u "java/util/Arrays$NaturalOrder"), (36, .class_ 115), (1, u "java/util/Arrays$LegacyMergeSort"), (1, u "Z"), (21, u "copyOfRange"), (10, .methodref 151 152), (0, .class_ 153), (0, .nameAndType 154 155), (0, u "java/lang/System"), (0, u "arraycopy"), (0, u "(Ljava/lang/Object;ILjava/lang/Object;II)V"), (148, .methodref 305 306), (0, .class_ 307), (0, .nameAndType 308 309), (0, u "java/lang/Math"), (0, u "min"), (0, u "(II)I"), (29, .methodref 14 340), (0, .nameAndType 341 342), (0, u "copyOfRangeByte"), (0, u "([BII)[B"), (0, .methodref 14 344), (0, .nameAndType 345 346), (0, u "checkLength"), (0, u "(II)V"), (28, .class_ 376), (0, u "java/util/Arrays$ArrayList"), (68, u "$assertionsDisabled"), (269, u "MIN_ARRAY_SORT_GRAN"), (0, u "I"), (2, u "INSERTIONSORT_THRESHOLD"), (255, .class_ 976), (0, u "java/util/Arrays$ArrayItr")] 52

def k13m0 : Method := ⟨"<init>", "()V", ⟨[], none⟩, 2, none⟩
def k13c1 : Code := ⟨4, 2, jdk_65_method_131_code, #[], #[]⟩
def k13m1 : Method := ⟨"checkLength", "(II)V", ⟨[.int, .int], none⟩, 10, some k13c1⟩
def k13c2 : Code := ⟨3, 3, jdk_65_method_132_code, #[], #[]⟩
def k13m2 : Method := ⟨"copyOfRange", "([BII)[B", ⟨[(.array .byte), .int, .int], some (.array .byte)⟩, 9, some k13c2⟩
def k13c3 : Code := ⟨6, 5, jdk_65_method_133_code, #[], #[]⟩
def k13m3 : Method := ⟨"copyOfRangeByte", "([BII)[B", ⟨[(.array .byte), .int, .int], some (.array .byte)⟩, 10, some k13c3⟩
/-- java/util/Arrays -/
def k13 : Class := { plain "java/util/Arrays" (some 0) with
  accessFlags := 49
  interfaces := #[]
  cf := some (fileOf pool13 14 #[.nestMembers #[975, 375, 113, 74]] #[⟨2, 5, 6, #[]⟩, ⟨10, 345, 346, #[]⟩, ⟨9, 139, 342, #[]⟩, ⟨10, 341, 342, #[]⟩] 49 2 #[] #[⟨26, 715, 716, #[]⟩, ⟨26, 719, 716, #[]⟩, ⟨4120, 445, 117, #[]⟩])
  fields := #[⟨"MIN_ARRAY_SORT_GRAN", .int, 26, 0, 0⟩, ⟨"INSERTIONSORT_THRESHOLD", .int, 26, 1, 0⟩, ⟨"$assertionsDisabled", .boolean, 4120, 2, 0⟩]
  methods := #[k13m0, k13m1, k13m2, k13m3]
  instanceTypes := #[]
  staticTypes := #[.int, .int, .boolean]
  resolved := Array.replicate 1029 none
  statics := none }

def pool14 : Array CpInfo := pool [(2, .class_ 4), (1, u "java/lang/Object"), (0, u "<init>"), (0, u "()V"), (1, .class_ 10), (1, u "java/lang/System"), (0, u "allowSecurityManager"), (0, u "I"), (16, u "cons"), (0, u "Ljava/io/Console;"), (77, .class_ 110), (1, u "java/lang/System$CallersHolder"), (43, u "initialErrStream"), (0, u "Ljava/io/PrintStream;"), (19, u "security"), (0, u "Ljava/lang/SecurityManager;"), (31, .class_ 209), (0, u "java/lang/System$1"), (7, u "props"), (0, u "Ljava/util/Properties;"), (2, u "lineSeparator"), (0, u "Ljava/lang/String;"), (96, .class_ 321), (1, u "java/lang/System$LoggerFinder"), (5, .class_ 328), (0, u "java/lang/System$Logger"), (67, u "err"), (2, u "out"), (91, u "notSupportedJnuEncoding"), (15, u "in"), (17, u "initialIn"), (0, u "Ljava/io/InputStream;"), (35, u "bootLayer"), (0, u "Ljava/lang/ModuleLayer;"), (99, .class_ 664), (0, u "java/lang/System$2"), (9, u "NEVER"), (2, u "MAYBE"), (49, u "arraycopy"), (0, u "(Ljava/lang/Object;ILjava/lang/Object;II)V"), (72, .class_ 802), (0, u "java/lang/System$Logger$Level")] 31

def k14m0 : Method := ⟨"<init>", "()V", ⟨[], none⟩, 2, none⟩
def k14m1 : Method := ⟨"arraycopy", "(Ljava/lang/Object;ILjava/lang/Object;II)V", ⟨[(.object "java/lang/Object"), .int, (.object "java/lang/Object"), .int, .int], none⟩, 265, none⟩
/-- java/lang/System -/
def k14 : Class := { plain "java/lang/System" (some 0) with
  accessFlags := 49
  interfaces := #[]
  cf := some (fileOf pool14 8 #[.nestMembers #[319, 327, 801, 108, 663, 208]] #[⟨2, 5, 6, #[]⟩, ⟨265, 727, 728, #[]⟩] 49 2 #[] #[⟨25, 507, 526, #[]⟩, ⟨25, 399, 155, #[]⟩, ⟨25, 396, 155, #[]⟩, ⟨10, 525, 526, #[]⟩, ⟨26, 674, 12, #[]⟩, ⟨26, 677, 12, #[]⟩, ⟨10, 11, 12, #[]⟩, ⟨74, 175, 176, #[]⟩, ⟨10, 491, 222, #[]⟩, ⟨74, 29, 30, #[]⟩, ⟨74, 154, 155, #[]⟩, ⟨10, 217, 218, #[]⟩, ⟨10, 221, 222, #[]⟩, ⟨8, 562, 563, #[]⟩])
  fields := #[⟨"in", (.object "java/io/InputStream"), 25, 0, 0⟩, ⟨"out", (.object "java/io/PrintStream"), 25, 1, 0⟩, ⟨"err", (.object "java/io/PrintStream"), 25, 2, 0⟩, ⟨"initialIn", (.object "java/io/InputStream"), 10, 3, 0⟩, ⟨"NEVER", .int, 26, 4, 0⟩, ⟨"MAYBE", .int, 26, 5, 0⟩, ⟨"allowSecurityManager", .int, 10, 6, 0⟩, ⟨"security", (.object "java/lang/SecurityManager"), 74, 7, 0⟩, ⟨"notSupportedJnuEncoding", (.object "java/lang/String"), 10, 8, 0⟩, ⟨"cons", (.object "java/io/Console"), 74, 9, 0⟩, ⟨"initialErrStream", (.object "java/io/PrintStream"), 74, 10, 0⟩, ⟨"props", (.object "java/util/Properties"), 10, 11, 0⟩, ⟨"lineSeparator", (.object "java/lang/String"), 10, 12, 0⟩, ⟨"bootLayer", (.object "java/lang/ModuleLayer"), 8, 13, 0⟩]
  methods := #[k14m0, k14m1]
  instanceTypes := #[]
  staticTypes := #[(.object "java/io/InputStream"), (.object "java/io/PrintStream"), (.object "java/io/PrintStream"), (.object "java/io/InputStream"), .int, .int, .int, (.object "java/lang/SecurityManager"), (.object "java/lang/String"), (.object "java/io/Console"), (.object "java/io/PrintStream"), (.object "java/util/Properties"), (.object "java/lang/String"), (.object "java/lang/ModuleLayer")]
  resolved := Array.replicate 834 none
  statics := none }

def pool15 : Array CpInfo := pool [(9, u "<init>"), (6, .class_ 18), (1, u "java/lang/Object"), (0, u "()V"), (1, .class_ 23), (1, u "jdk/internal/util/ArraysSupport"), (0, u "LOG2_ARRAY_LONG_INDEX_SCALE"), (0, u "I"), (2, u "U"), (0, u "Ljdk/internal/misc/Unsafe;"), (8, u "BIG_ENDIAN"), (0, u "Z"), (8, u "LOG2_BYTE_BIT_SIZE"), (4, u "LOG2_ARRAY_INT_INDEX_SCALE"), (54, u "JLA"), (0, u "Ljdk/internal/access/JavaLangAccess;"), (11, u "LOG2_ARRAY_BOOLEAN_INDEX_SCALE"), (9, u "LOG2_ARRAY_BYTE_INDEX_SCALE"), (5, u "LOG2_ARRAY_CHAR_INDEX_SCALE"), (5, u "LOG2_ARRAY_SHORT_INDEX_SCALE"), (18, u "LOG2_ARRAY_FLOAT_INDEX_SCALE"), (24, u "LOG2_ARRAY_DOUBLE_INDEX_SCALE"), (89, u "T_BOOLEAN"), (2, u "T_CHAR"), (1, u "T_FLOAT"), (1, u "T_DOUBLE"), (1, u "T_BYTE"), (1, u "T_SHORT"), (1, u "T_INT"), (1, u "T_LONG"), (1, u "SOFT_MAX_ARRAY_LENGTH")] 83

def k15m0 : Method := ⟨"<init>", "()V", ⟨[], none⟩, 2, none⟩
/-- jdk/internal/util/ArraysSupport -/
def k15 : Class := { plain "jdk/internal/util/ArraysSupport" (some 0) with
  accessFlags := 33
  interfaces := #[]
  cf := some (fileOf pool15 21 #[] #[⟨2, 9, 19, #[]⟩] 33 16 #[] #[⟨24, 28, 29, #[]⟩, ⟨26, 38, 39, #[]⟩, ⟨25, 121, 25, #[]⟩, ⟨25, 131, 25, #[]⟩, ⟨25, 137, 25, #[]⟩, ⟨25, 143, 25, #[]⟩, ⟨25, 53, 25, #[]⟩, ⟨25, 24, 25, #[]⟩, ⟨25, 162, 25, #[]⟩, ⟨25, 187, 25, #[]⟩, ⟨26, 48, 25, #[]⟩, ⟨25, 277, 25, #[]⟩, ⟨25, 280, 25, #[]⟩, ⟨25, 282, 25, #[]⟩, ⟨25, 284, 25, #[]⟩, ⟨25, 286, 25, #[]⟩, ⟨25, 288, 25, #[]⟩, ⟨25, 290, 25, #[]⟩, ⟨25, 292, 25, #[]⟩, ⟨26, 108, 109, #[]⟩, ⟨25, 294, 25, #[]⟩])
  fields := #[⟨"U", (.object "jdk/internal/misc/Unsafe"), 24, 0, 0⟩, ⟨"BIG_ENDIAN", .boolean, 26, 1, 0⟩, ⟨"LOG2_ARRAY_BOOLEAN_INDEX_SCALE", .int, 25, 2, 0⟩, ⟨"LOG2_ARRAY_BYTE_INDEX_SCALE", .int, 25, 3, 0⟩, ⟨"LOG2_ARRAY_CHAR_INDEX_SCALE", .int, 25, 4, 0⟩, ⟨"LOG2_ARRAY_SHORT_INDEX_SCALE", .int, 25, 5, 0⟩, ⟨"LOG2_ARRAY_INT_INDEX_SCALE", .int, 25, 6, 0⟩, ⟨"LOG2_ARRAY_LONG_INDEX_SCALE", .int, 25, 7, 0⟩, ⟨"LOG2_ARRAY_FLOAT_INDEX_SCALE", .int, 25, 8, 0⟩, ⟨"LOG2_ARRAY_DOUBLE_INDEX_SCALE", .int, 25, 9, 0⟩, ⟨"LOG2_BYTE_BIT_SIZE", .int, 26, 10, 0⟩, ⟨"T_BOOLEAN", .int, 25, 11, 0⟩, ⟨"T_CHAR", .int, 25, 12, 0⟩, ⟨"T_FLOAT", .int, 25, 13, 0⟩, ⟨"T_DOUBLE", .int, 25, 14, 0⟩, ⟨"T_BYTE", .int, 25, 15, 0⟩, ⟨"T_SHORT", .int, 25, 16, 0⟩, ⟨"T_INT", .int, 25, 17, 0⟩, ⟨"T_LONG", .int, 25, 18, 0⟩, ⟨"JLA", (.object "jdk/internal/access/JavaLangAccess"), 26, 19, 0⟩, ⟨"SOFT_MAX_ARRAY_LENGTH", .int, 25, 20, 0⟩]
  methods := #[k15m0]
  instanceTypes := #[]
  staticTypes := #[(.object "jdk/internal/misc/Unsafe"), .boolean, .int, .int, .int, .int, .int, .int, .int, .int, .int, .int, .int, .int, .int, .int, .int, .int, .int, (.object "jdk/internal/access/JavaLangAccess"), .int]
  resolved := Array.replicate 378 none
  statics := none }

def pool16 : Array CpInfo := pool [(1, u "java/lang/Cloneable"), (0, .class_ 1), (0, u "java/lang/Object"), (0, .class_ 3)] 3

/-- java/lang/Cloneable -/
def k16 : Class := { plain "java/lang/Cloneable" (some 0) with
  accessFlags := 1537
  interfaces := #[]
  cf := some (fileOf pool16 2 #[] #[] 1537 4 #[] #[])
  fields := #[]
  methods := #[]
  instanceTypes := #[]
  staticTypes := #[]
  resolved := Array.replicate 8 none
  statics := none }

/-- the primitive byte -/
def k17 : Class := { plain "byte" none with kind := .primitive 'B', accessFlags := 0x411 }
/-- [B -/
def k18 : Class := { plain "[B" (some 0) with kind := .array 17 .byte, interfaces := #[16, 2], accessFlags := 1041 }

/-- the primitive char -/
def k19 : Class := { plain "char" none with kind := .primitive 'C', accessFlags := 0x411 }
/-- [C -/
def k20 : Class := { plain "[C" (some 0) with kind := .array 19 .char, interfaces := #[16, 2], accessFlags := 1041 }

def heap : Heap := #[{ cls := 7, slots := #[.long 0, .int 1, .null, .int 0, .null, .int 0, .int 0], vm := .statics 7 },
  { cls := 12, slots := #[.null, .null, .null], vm := .statics 12 }]
def classes : Array Class := #[k0, k1, k2, k3, k4, k5, k6, k7, k8, k9, k10, k11, k12, k13, k14, k15, k16, k17, k18, k19, k20]
def interned : List (Array UInt16 × Addr) := []
def slotsUsed : Nat := 10
def theMethod : MethodId := ⟨1, 2⟩
def args0 : Array Value := #[.int 1, .int 2, .int 3, .int 4, .int 5]
def aboutOver (below : List Frame) : State where
  vm := { classes := classes, interned := interned.toArray }
  heap := heap
  slotsUsed := slotsUsed
  threads := #[{ frames := .invoking theMethod args0 :: below }]
def below0 : List Frame := [.native { method := ⟨0, 0⟩, args := #[] }]
def about1 : State := aboutOver below0
def p0 : Program := .bare "" "" ""
def e0 : Env := launch0.env 0 0 0
theorem w_frames : about1.frames = Frame.invoking theMethod args0 :: below0 := rfl
set_option maxRecDepth 65536 in
theorem w_args : argsFit about1.vm theMethod args0 = true := by decide +kernel
set_option maxRecDepth 65536 in
theorem w_heap : heapFits about1 = true := by decide +kernel
set_option maxRecDepth 65536 in
theorem w_runnable : about1.curStatus? = some .runnable := by decide +kernel
set_option maxRecDepth 65536 in
theorem w_alone : about1.alone = true := by decide +kernel
set_option maxRecDepth 65536 in
theorem w_named : about1.methodNamed? x = some theMethod := by decide +kernel
set_option maxRecDepth 65536 in
theorem w_hears : about1.hears theMethod below0 = true := by decide +kernel
set_option maxRecDepth 65536 in
theorem w_ripe : about1.ripe theMethod args0 below0 = true := by decide +kernel
theorem w_running : about1.status = .running := rfl
set_option maxRecDepth 65536 in
theorem w_room : about1.hasRoom e0.platform room_1 = true :=
  launch0.hasRoom_least _ room_1 (by decide +kernel) (by decide +kernel) (by decide +kernel) (by decide +kernel) (by decide +kernel) (by decide +kernel)
theorem allAtoms_all (ts : List Jvm.Cond) (a : Array Jvm.Value) (st : Jvm.State) : (allAtoms ts).before a st = ts.all (fun c => c.before a st) := by
  induction ts with
  | nil => rfl
  | cons c t ih =>
    show (Jvm.Cond.and c (allAtoms t)).before a st = _
    rw [Jvm.Cond.before_and, ih, List.all_cons]
def words1 : List Jvm.Cond := Jvm.Cond.code x code maxLocals ret :: tables_1
/-- a 'code' word, met by the world's own term for the bytes: nothing is compared byte by byte -/
theorem code_word {y : MethodName} {bytes : ByteArray} {mx : Nat} {rt : Option FieldType} {a : Array Value} {s : State} {m : MethodId} {meth : Method} {c : Code} (h1 : s.methodNamed? y = some m) (h2 : s.vm.method? m = some meth) (h3 : meth.code = some c) (h4 : c.code = bytes)
    (h5 : (c.maxLocals == mx && c.exceptionTable.isEmpty && decide (c.maxStack ≤ mostOperands) && decide (meth.sig.returnType = rt) && !meth.locks && decide (parseMethodDescriptor y.desc = some meth.sig)) = true) : (Jvm.Cond.code y bytes mx rt).before a s = true := by
  simp only [Bool.and_eq_true, beq_iff_eq, Bool.not_eq_true', decide_eq_true_eq] at h5
  obtain ⟨⟨⟨⟨⟨g1, g2⟩, g3⟩, g4⟩, g5⟩, g6⟩ := h5
  simp [Cond.before, Cond.holds, Cond.value, h1, h2, h3, h4, g1, g2, g3, g4, g5, g6]
def isCode : Jvm.Cond → Bool
  | .code _ _ _ _ => true
  | _ => false
theorem all_split {L : List Jvm.Cond} {P : Jvm.Cond → Bool} (h1 : L.all (fun c => isCode c || P c) = true) (h2 : ∀ c ∈ L.filter isCode, P c = true) : L.all P = true := by
  refine List.all_eq_true.mpr fun c hc => ?_
  have h := List.all_eq_true.mp h1 c hc
  rcases Bool.eq_false_or_eq_true (isCode c) with hi | hi
  · exact h2 c (List.mem_filter.mpr ⟨hc, hi⟩)
  · simpa [hi] using h
set_option maxRecDepth 65536 in
theorem w_c0 : (Jvm.Cond.code x code maxLocals ret).before args0 about1 = true := code_word (m := ⟨1, 2⟩) (meth := k1m2) (c := k1c2) (by decide +kernel) rfl rfl rfl (by decide +kernel)
set_option maxRecDepth 65536 in
theorem w_c1 : (Jvm.Cond.code ({ cls := "com/example/web_whiteboard/webwhiteboard/context/ServletPatternExtensionPinLaw", name := "draw", desc := "(I)C" } : Jvm.MethodName) method_2_code (2 : Nat) (Option.some Jvm.ClassFile.FieldType.char)).before args0 about1 = true := code_word (m := ⟨1, 1⟩) (meth := k1m1) (c := k1c1) (by decide +kernel) rfl rfl rfl (by decide +kernel)
set_option maxRecDepth 65536 in
theorem w_c2 : (Jvm.Cond.code ({ cls := "java/lang/String", name := "<init>", desc := "([C)V" } : Jvm.MethodName) jdk_42_method_3_code (2 : Nat) (Option.none : Option Jvm.ClassFile.FieldType)).before args0 about1 = true := code_word (m := ⟨7, 1⟩) (meth := k7m1) (c := k7c1) (by decide +kernel) rfl rfl rfl (by decide +kernel)
set_option maxRecDepth 65536 in
theorem w_c3 : (Jvm.Cond.code ({ cls := "java/lang/String", name := "<init>", desc := "([CIILjava/lang/Void;)V" } : Jvm.MethodName) jdk_42_method_149_code (6 : Nat) (Option.none : Option Jvm.ClassFile.FieldType)).before args0 about1 = true := code_word (m := ⟨7, 8⟩) (meth := k7m8) (c := k7c8) (by decide +kernel) rfl rfl rfl (by decide +kernel)
set_option maxRecDepth 65536 in
theorem w_c4 : (Jvm.Cond.code ({ cls := "java/lang/Object", name := "<init>", desc := "()V" } : Jvm.MethodName) object_method_1_code (1 : Nat) (Option.none : Option Jvm.ClassFile.FieldType)).before args0 about1 = true := code_word (m := ⟨0, 0⟩) (meth := k0m0) (c := k0c0) (by decide +kernel) rfl rfl rfl (by decide +kernel)
set_option maxRecDepth 65536 in
theorem w_c5 : (Jvm.Cond.code ({ cls := "java/lang/StringUTF16", name := "compress", desc := "([CII)[B" } : Jvm.MethodName) jdk_52_method_16_code (6 : Nat) (Option.some (Jvm.ClassFile.FieldType.array Jvm.ClassFile.FieldType.byte))).before args0 about1 = true := code_word (m := ⟨8, 2⟩) (meth := k8m2) (c := k8c2) (by decide +kernel) rfl rfl rfl (by decide +kernel)
set_option maxRecDepth 65536 in
theorem w_c6 : (Jvm.Cond.code ({ cls := "java/lang/StringUTF16", name := "compress", desc := "([CI[BII)I" } : Jvm.MethodName) jdk_52_method_21_code (7 : Nat) (Option.some Jvm.ClassFile.FieldType.int)).before args0 about1 = true := code_word (m := ⟨8, 3⟩) (meth := k8m3) (c := k8c3) (by decide +kernel) rfl rfl rfl (by decide +kernel)
set_option maxRecDepth 65536 in
theorem w_c7 : (Jvm.Cond.code ({ cls := "java/lang/StringUTF16", name := "coderFromArrayLen", desc := "([BI)B" } : Jvm.MethodName) jdk_52_method_15_code (2 : Nat) (Option.some Jvm.ClassFile.FieldType.byte)).before args0 about1 = true := code_word (m := ⟨8, 1⟩) (meth := k8m1) (c := k8c1) (by decide +kernel) rfl rfl rfl (by decide +kernel)
set_option maxRecDepth 65536 in
theorem w_c8 : (Jvm.Cond.code ({ cls := "com/example/web_whiteboard/webwhiteboard/context/ServletPattern", name := "extension", desc := "(Ljava/lang/String;)Ljava/lang/String;" } : Jvm.MethodName) prog_4_method_11_code (3 : Nat) (Option.some (Jvm.ClassFile.FieldType.object "java/lang/String"))).before args0 about1 = true := code_word (m := ⟨9, 0⟩) (meth := k9m0) (c := k9c0) (by decide +kernel) rfl rfl rfl (by decide +kernel)
set_option maxRecDepth 65536 in
theorem w_c9 : (Jvm.Cond.code ({ cls := "java/lang/String", name := "lastIndexOf", desc := "(I)I" } : Jvm.MethodName) jdk_42_method_82_code (2 : Nat) (Option.some Jvm.ClassFile.FieldType.int)).before args0 about1 = true := code_word (m := ⟨7, 4⟩) (meth := k7m4) (c := k7c4) (by decide +kernel) rfl rfl rfl (by decide +kernel)
set_option maxRecDepth 65536 in
theorem w_c10 : (Jvm.Cond.code ({ cls := "java/lang/String", name := "length", desc := "()I" } : Jvm.MethodName) jdk_42_method_54_code (1 : Nat) (Option.some Jvm.ClassFile.FieldType.int)).before args0 about1 = true := code_word (m := ⟨7, 2⟩) (meth := k7m2) (c := k7c2) (by decide +kernel) rfl rfl rfl (by decide +kernel)
set_option maxRecDepth 65536 in
theorem w_c11 : (Jvm.Cond.code ({ cls := "java/lang/String", name := "coder", desc := "()B" } : Jvm.MethodName) jdk_42_method_152_code (1 : Nat) (Option.some Jvm.ClassFile.FieldType.byte)).before args0 about1 = true := code_word (m := ⟨7, 10⟩) (meth := k7m10) (c := k7c10) (by decide +kernel) rfl rfl rfl (by decide +kernel)
set_option maxRecDepth 65536 in
theorem w_c12 : (Jvm.Cond.code ({ cls := "java/lang/String", name := "lastIndexOf", desc := "(II)I" } : Jvm.MethodName) jdk_42_method_83_code (3 : Nat) (Option.some Jvm.ClassFile.FieldType.int)).before args0 about1 = true := code_word (m := ⟨7, 5⟩) (meth := k7m5) (c := k7c5) (by decide +kernel) rfl rfl rfl (by decide +kernel)
set_option maxRecDepth 65536 in
theorem w_c13 : (Jvm.Cond.code ({ cls := "java/lang/String", name := "isLatin1", desc := "()Z" } : Jvm.MethodName) jdk_42_method_154_code (1 : Nat) (Option.some Jvm.ClassFile.FieldType.boolean)).before args0 about1 = true := code_word (m := ⟨7, 11⟩) (meth := k7m11) (c := k7c11) (by decide +kernel) rfl rfl rfl (by decide +kernel)
set_option maxRecDepth 65536 in
theorem w_c14 : (Jvm.Cond.code ({ cls := "java/lang/StringLatin1", name := "lastIndexOf", desc := "([BII)I" } : Jvm.MethodName) jdk_43_method_27_code (4 : Nat) (Option.some Jvm.ClassFile.FieldType.int)).before args0 about1 = true := code_word (m := ⟨10, 3⟩) (meth := k10m3) (c := k10c3) (by decide +kernel) rfl rfl rfl (by decide +kernel)
set_option maxRecDepth 65536 in
theorem w_c15 : (Jvm.Cond.code ({ cls := "java/lang/StringLatin1", name := "canEncode", desc := "(I)Z" } : Jvm.MethodName) jdk_43_method_4_code (1 : Nat) (Option.some Jvm.ClassFile.FieldType.boolean)).before args0 about1 = true := code_word (m := ⟨10, 2⟩) (meth := k10m2) (c := k10c2) (by decide +kernel) rfl rfl rfl (by decide +kernel)
set_option maxRecDepth 65536 in
theorem w_c16 : (Jvm.Cond.code ({ cls := "java/lang/Math", name := "min", desc := "(II)I" } : Jvm.MethodName) jdk_29_method_69_code (2 : Nat) (Option.some Jvm.ClassFile.FieldType.int)).before args0 about1 = true := code_word (m := ⟨11, 1⟩) (meth := k11m1) (c := k11c1) (by decide +kernel) rfl rfl rfl (by decide +kernel)
set_option maxRecDepth 65536 in
theorem w_c17 : (Jvm.Cond.code ({ cls := "java/lang/String", name := "substring", desc := "(I)Ljava/lang/String;" } : Jvm.MethodName) jdk_42_method_91_code (2 : Nat) (Option.some (Jvm.ClassFile.FieldType.object "java/lang/String"))).before args0 about1 = true := code_word (m := ⟨7, 6⟩) (meth := k7m6) (c := k7c6) (by decide +kernel) rfl rfl rfl (by decide +kernel)
set_option maxRecDepth 65536 in
theorem w_c18 : (Jvm.Cond.code ({ cls := "java/lang/String", name := "substring", desc := "(II)Ljava/lang/String;" } : Jvm.MethodName) jdk_42_method_92_code (5 : Nat) (Option.some (Jvm.ClassFile.FieldType.object "java/lang/String"))).before args0 about1 = true := code_word (m := ⟨7, 7⟩) (meth := k7m7) (c := k7c7) (by decide +kernel) rfl rfl rfl (by decide +kernel)
set_option maxRecDepth 65536 in
theorem w_c19 : (Jvm.Cond.code ({ cls := "java/lang/String", name := "checkBoundsBeginEnd", desc := "(III)V" } : Jvm.MethodName) jdk_42_method_158_code (3 : Nat) (Option.none : Option Jvm.ClassFile.FieldType)).before args0 about1 = true := code_word (m := ⟨7, 13⟩) (meth := k7m13) (c := k7c13) (by decide +kernel) rfl rfl rfl (by decide +kernel)
set_option maxRecDepth 65536 in
theorem w_c20 : (Jvm.Cond.code ({ cls := "jdk/internal/util/Preconditions", name := "checkFromToIndex", desc := "(IIILjava/util/function/BiFunction;)I" } : Jvm.MethodName) jdk_41_method_12_code (4 : Nat) (Option.some Jvm.ClassFile.FieldType.int)).before args0 about1 = true := code_word (m := ⟨12, 2⟩) (meth := k12m2) (c := k12c2) (by decide +kernel) rfl rfl rfl (by decide +kernel)
set_option maxRecDepth 65536 in
theorem w_c21 : (Jvm.Cond.code ({ cls := "java/lang/StringLatin1", name := "newString", desc := "([BII)Ljava/lang/String;" } : Jvm.MethodName) jdk_43_method_47_code (3 : Nat) (Option.some (Jvm.ClassFile.FieldType.object "java/lang/String"))).before args0 about1 = true := code_word (m := ⟨10, 4⟩) (meth := k10m4) (c := k10c4) (by decide +kernel) rfl rfl rfl (by decide +kernel)
set_option maxRecDepth 65536 in
theorem w_c22 : (Jvm.Cond.code ({ cls := "java/util/Arrays", name := "copyOfRange", desc := "([BII)[B" } : Jvm.MethodName) jdk_65_method_132_code (3 : Nat) (Option.some (Jvm.ClassFile.FieldType.array Jvm.ClassFile.FieldType.byte))).before args0 about1 = true := code_word (m := ⟨13, 2⟩) (meth := k13m2) (c := k13c2) (by decide +kernel) rfl rfl rfl (by decide +kernel)
set_option maxRecDepth 65536 in
theorem w_c23 : (Jvm.Cond.code ({ cls := "java/util/Arrays", name := "copyOfRangeByte", desc := "([BII)[B" } : Jvm.MethodName) jdk_65_method_133_code (5 : Nat) (Option.some (Jvm.ClassFile.FieldType.array Jvm.ClassFile.FieldType.byte))).before args0 about1 = true := code_word (m := ⟨13, 3⟩) (meth := k13m3) (c := k13c3) (by decide +kernel) rfl rfl rfl (by decide +kernel)
set_option maxRecDepth 65536 in
theorem w_c24 : (Jvm.Cond.code ({ cls := "java/util/Arrays", name := "checkLength", desc := "(II)V" } : Jvm.MethodName) jdk_65_method_131_code (2 : Nat) (Option.none : Option Jvm.ClassFile.FieldType)).before args0 about1 = true := code_word (m := ⟨13, 1⟩) (meth := k13m1) (c := k13c1) (by decide +kernel) rfl rfl rfl (by decide +kernel)
set_option maxRecDepth 65536 in
theorem w_c25 : (Jvm.Cond.code ({ cls := "java/lang/String", name := "<init>", desc := "([BB)V" } : Jvm.MethodName) jdk_42_method_151_code (3 : Nat) (Option.none : Option Jvm.ClassFile.FieldType)).before args0 about1 = true := code_word (m := ⟨7, 9⟩) (meth := k7m9) (c := k7c9) (by decide +kernel) rfl rfl rfl (by decide +kernel)
set_option maxRecDepth 65536 in
theorem w_c26 : (Jvm.Cond.code ({ cls := "java/lang/String", name := "charAt", desc := "(I)C" } : Jvm.MethodName) jdk_42_method_56_code (2 : Nat) (Option.some Jvm.ClassFile.FieldType.char)).before args0 about1 = true := code_word (m := ⟨7, 3⟩) (meth := k7m3) (c := k7c3) (by decide +kernel) rfl rfl rfl (by decide +kernel)
set_option maxRecDepth 65536 in
theorem w_c27 : (Jvm.Cond.code ({ cls := "java/lang/StringLatin1", name := "charAt", desc := "([BI)C" } : Jvm.MethodName) jdk_43_method_2_code (2 : Nat) (Option.some Jvm.ClassFile.FieldType.char)).before args0 about1 = true := code_word (m := ⟨10, 1⟩) (meth := k10m1) (c := k10c1) (by decide +kernel) rfl rfl rfl (by decide +kernel)
set_option maxRecDepth 65536 in
theorem w_c28 : (Jvm.Cond.code ({ cls := "java/lang/String", name := "checkIndex", desc := "(II)V" } : Jvm.MethodName) jdk_42_method_155_code (2 : Nat) (Option.none : Option Jvm.ClassFile.FieldType)).before args0 about1 = true := code_word (m := ⟨7, 12⟩) (meth := k7m12) (c := k7c12) (by decide +kernel) rfl rfl rfl (by decide +kernel)
set_option maxRecDepth 65536 in
theorem w_c29 : (Jvm.Cond.code ({ cls := "jdk/internal/util/Preconditions", name := "checkIndex", desc := "(IILjava/util/function/BiFunction;)I" } : Jvm.MethodName) jdk_41_method_11_code (3 : Nat) (Option.some Jvm.ClassFile.FieldType.int)).before args0 about1 = true := code_word (m := ⟨12, 1⟩) (meth := k12m1) (c := k12c1) (by decide +kernel) rfl rfl rfl (by decide +kernel)
def codes1 : List Jvm.Cond := [Jvm.Cond.code x code maxLocals ret, Jvm.Cond.code ({ cls := "com/example/web_whiteboard/webwhiteboard/context/ServletPatternExtensionPinLaw", name := "draw", desc := "(I)C" } : Jvm.MethodName) method_2_code (2 : Nat) (Option.some Jvm.ClassFile.FieldType.char), Jvm.Cond.code ({ cls := "java/lang/String", name := "<init>", desc := "([C)V" } : Jvm.MethodName) jdk_42_method_3_code (2 : Nat) (Option.none : Option Jvm.ClassFile.FieldType), Jvm.Cond.code ({ cls := "java/lang/String", name := "<init>", desc := "([CIILjava/lang/Void;)V" } : Jvm.MethodName) jdk_42_method_149_code (6 : Nat) (Option.none : Option Jvm.ClassFile.FieldType), Jvm.Cond.code ({ cls := "java/lang/Object", name := "<init>", desc := "()V" } : Jvm.MethodName) object_method_1_code (1 : Nat) (Option.none : Option Jvm.ClassFile.FieldType), Jvm.Cond.code ({ cls := "java/lang/StringUTF16", name := "compress", desc := "([CII)[B" } : Jvm.MethodName) jdk_52_method_16_code (6 : Nat) (Option.some (Jvm.ClassFile.FieldType.array Jvm.ClassFile.FieldType.byte)), Jvm.Cond.code ({ cls := "java/lang/StringUTF16", name := "compress", desc := "([CI[BII)I" } : Jvm.MethodName) jdk_52_method_21_code (7 : Nat) (Option.some Jvm.ClassFile.FieldType.int), Jvm.Cond.code ({ cls := "java/lang/StringUTF16", name := "coderFromArrayLen", desc := "([BI)B" } : Jvm.MethodName) jdk_52_method_15_code (2 : Nat) (Option.some Jvm.ClassFile.FieldType.byte), Jvm.Cond.code ({ cls := "com/example/web_whiteboard/webwhiteboard/context/ServletPattern", name := "extension", desc := "(Ljava/lang/String;)Ljava/lang/String;" } : Jvm.MethodName) prog_4_method_11_code (3 : Nat) (Option.some (Jvm.ClassFile.FieldType.object "java/lang/String")), Jvm.Cond.code ({ cls := "java/lang/String", name := "lastIndexOf", desc := "(I)I" } : Jvm.MethodName) jdk_42_method_82_code (2 : Nat) (Option.some Jvm.ClassFile.FieldType.int), Jvm.Cond.code ({ cls := "java/lang/String", name := "length", desc := "()I" } : Jvm.MethodName) jdk_42_method_54_code (1 : Nat) (Option.some Jvm.ClassFile.FieldType.int), Jvm.Cond.code ({ cls := "java/lang/String", name := "coder", desc := "()B" } : Jvm.MethodName) jdk_42_method_152_code (1 : Nat) (Option.some Jvm.ClassFile.FieldType.byte), Jvm.Cond.code ({ cls := "java/lang/String", name := "lastIndexOf", desc := "(II)I" } : Jvm.MethodName) jdk_42_method_83_code (3 : Nat) (Option.some Jvm.ClassFile.FieldType.int), Jvm.Cond.code ({ cls := "java/lang/String", name := "isLatin1", desc := "()Z" } : Jvm.MethodName) jdk_42_method_154_code (1 : Nat) (Option.some Jvm.ClassFile.FieldType.boolean), Jvm.Cond.code ({ cls := "java/lang/StringLatin1", name := "lastIndexOf", desc := "([BII)I" } : Jvm.MethodName) jdk_43_method_27_code (4 : Nat) (Option.some Jvm.ClassFile.FieldType.int), Jvm.Cond.code ({ cls := "java/lang/StringLatin1", name := "canEncode", desc := "(I)Z" } : Jvm.MethodName) jdk_43_method_4_code (1 : Nat) (Option.some Jvm.ClassFile.FieldType.boolean), Jvm.Cond.code ({ cls := "java/lang/Math", name := "min", desc := "(II)I" } : Jvm.MethodName) jdk_29_method_69_code (2 : Nat) (Option.some Jvm.ClassFile.FieldType.int), Jvm.Cond.code ({ cls := "java/lang/String", name := "substring", desc := "(I)Ljava/lang/String;" } : Jvm.MethodName) jdk_42_method_91_code (2 : Nat) (Option.some (Jvm.ClassFile.FieldType.object "java/lang/String")), Jvm.Cond.code ({ cls := "java/lang/String", name := "substring", desc := "(II)Ljava/lang/String;" } : Jvm.MethodName) jdk_42_method_92_code (5 : Nat) (Option.some (Jvm.ClassFile.FieldType.object "java/lang/String")), Jvm.Cond.code ({ cls := "java/lang/String", name := "checkBoundsBeginEnd", desc := "(III)V" } : Jvm.MethodName) jdk_42_method_158_code (3 : Nat) (Option.none : Option Jvm.ClassFile.FieldType), Jvm.Cond.code ({ cls := "jdk/internal/util/Preconditions", name := "checkFromToIndex", desc := "(IIILjava/util/function/BiFunction;)I" } : Jvm.MethodName) jdk_41_method_12_code (4 : Nat) (Option.some Jvm.ClassFile.FieldType.int), Jvm.Cond.code ({ cls := "java/lang/StringLatin1", name := "newString", desc := "([BII)Ljava/lang/String;" } : Jvm.MethodName) jdk_43_method_47_code (3 : Nat) (Option.some (Jvm.ClassFile.FieldType.object "java/lang/String")), Jvm.Cond.code ({ cls := "java/util/Arrays", name := "copyOfRange", desc := "([BII)[B" } : Jvm.MethodName) jdk_65_method_132_code (3 : Nat) (Option.some (Jvm.ClassFile.FieldType.array Jvm.ClassFile.FieldType.byte)), Jvm.Cond.code ({ cls := "java/util/Arrays", name := "copyOfRangeByte", desc := "([BII)[B" } : Jvm.MethodName) jdk_65_method_133_code (5 : Nat) (Option.some (Jvm.ClassFile.FieldType.array Jvm.ClassFile.FieldType.byte)), Jvm.Cond.code ({ cls := "java/util/Arrays", name := "checkLength", desc := "(II)V" } : Jvm.MethodName) jdk_65_method_131_code (2 : Nat) (Option.none : Option Jvm.ClassFile.FieldType), Jvm.Cond.code ({ cls := "java/lang/String", name := "<init>", desc := "([BB)V" } : Jvm.MethodName) jdk_42_method_151_code (3 : Nat) (Option.none : Option Jvm.ClassFile.FieldType), Jvm.Cond.code ({ cls := "java/lang/String", name := "charAt", desc := "(I)C" } : Jvm.MethodName) jdk_42_method_56_code (2 : Nat) (Option.some Jvm.ClassFile.FieldType.char), Jvm.Cond.code ({ cls := "java/lang/StringLatin1", name := "charAt", desc := "([BI)C" } : Jvm.MethodName) jdk_43_method_2_code (2 : Nat) (Option.some Jvm.ClassFile.FieldType.char), Jvm.Cond.code ({ cls := "java/lang/String", name := "checkIndex", desc := "(II)V" } : Jvm.MethodName) jdk_42_method_155_code (2 : Nat) (Option.none : Option Jvm.ClassFile.FieldType), Jvm.Cond.code ({ cls := "jdk/internal/util/Preconditions", name := "checkIndex", desc := "(IILjava/util/function/BiFunction;)I" } : Jvm.MethodName) jdk_41_method_11_code (3 : Nat) (Option.some Jvm.ClassFile.FieldType.int)]
set_option maxRecDepth 65536 in
theorem codes_eq : words1.filter isCode = codes1 := rfl
theorem w_codes : ∀ c ∈ words1.filter isCode, c.before args0 about1 = true := by
  rw [codes_eq]
  intro c hc
  simp only [codes1, List.mem_cons, List.not_mem_nil, or_false] at hc
  rcases hc with rfl | rfl | rfl | rfl | rfl | rfl | rfl | rfl | rfl | rfl | rfl | rfl | rfl | rfl | rfl | rfl | rfl | rfl | rfl | rfl | rfl | rfl | rfl | rfl | rfl | rfl | rfl | rfl | rfl | rfl
  · exact w_c0
  · exact w_c1
  · exact w_c2
  · exact w_c3
  · exact w_c4
  · exact w_c5
  · exact w_c6
  · exact w_c7
  · exact w_c8
  · exact w_c9
  · exact w_c10
  · exact w_c11
  · exact w_c12
  · exact w_c13
  · exact w_c14
  · exact w_c15
  · exact w_c16
  · exact w_c17
  · exact w_c18
  · exact w_c19
  · exact w_c20
  · exact w_c21
  · exact w_c22
  · exact w_c23
  · exact w_c24
  · exact w_c25
  · exact w_c26
  · exact w_c27
  · exact w_c28
  · exact w_c29
set_option maxRecDepth 65536 in
theorem w_t1 : (words1.take 24).all (fun c => isCode c || c.before args0 about1) = true := by decide +kernel
set_option maxRecDepth 65536 in
theorem w_t2 : ((words1.drop 24).take 24).all (fun c => isCode c || c.before args0 about1) = true := by decide +kernel
set_option maxRecDepth 65536 in
theorem w_t3 : (((words1.drop 24).drop 24).take 24).all (fun c => isCode c || c.before args0 about1) = true := by decide +kernel
set_option maxRecDepth 65536 in
theorem w_t4 : ((((words1.drop 24).drop 24).drop 24).take 24).all (fun c => isCode c || c.before args0 about1) = true := by decide +kernel
set_option maxRecDepth 65536 in
theorem w_t5 : (((((words1.drop 24).drop 24).drop 24).drop 24).take 24).all (fun c => isCode c || c.before args0 about1) = true := by decide +kernel
set_option maxRecDepth 65536 in
theorem w_t6 : (((((words1.drop 24).drop 24).drop 24).drop 24).drop 24).all (fun c => isCode c || c.before args0 about1) = true := by decide +kernel
theorem w_tables : (allAtoms (Jvm.Cond.code x code maxLocals ret :: tables_1)).before args0 about1 = true := by
  rw [allAtoms_all]
  show words1.all (fun c => c.before args0 about1) = true
  refine all_split ?_ w_codes
  rw [← List.take_append_drop 24 words1, List.all_append, w_t1, ← List.take_append_drop 24 (words1.drop 24), List.all_append, w_t2, ← List.take_append_drop 24 ((words1.drop 24).drop 24), List.all_append, w_t3, ← List.take_append_drop 24 (((words1.drop 24).drop 24).drop 24), List.all_append, w_t4, ← List.take_append_drop 24 ((((words1.drop 24).drop 24).drop 24).drop 24), List.all_append, w_t5, w_t6]
  rfl
set_option maxRecDepth 65536 in
theorem w_rest : rest_1_c.before args0 about1 = true := by decide +kernel
set_option maxRecDepth 65536 in
theorem w_case : (Jvm.Cond.and given_1 narrow_1).before args0 about1 = true := by decide +kernel
set_option maxRecDepth 65536 in
theorem w_consts : constsHeld consts_1 about1 := Jvm.Lit.constsHeldB_iff.mp (by decide +kernel)
theorem w_applies : (headSpec (Jvm.Cond.code x code maxLocals ret :: tables_1) room_1).applies x e0.platform about1 = true :=
  (Spec.applies_iff w_frames).mpr ⟨w_running, w_runnable, w_alone, w_named, w_hears, w_ripe, w_room, w_tables⟩
theorem atStart : AtStart classFile x code maxLocals ret World_1 tables_1 room_1 Calls_1 rest_1 Pre_1 launch0 p0 e0 about1 theMethod args0 below0 :=
  ⟨lists_1, trivial, launch0.admits_env _ _ _, launch0.least_env, fairChoices_fair.cas, fairChoices_fair.clock, w_frames, w_args, w_heap, w_applies, ⟨w_consts, trivial⟩, w_rest, w_case⟩
end start1
theorem witness_1 : WitnessClaimed_1 := ⟨start1.p0, start1.e0, start1.about1, start1.theMethod, start1.args0, start1.below0, start1.atStart⟩
end Jvm.Pilot.@@N@@
