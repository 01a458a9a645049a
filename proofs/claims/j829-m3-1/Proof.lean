import JvmDerived
import JvmDerived.Pilot.@@N@@Statement
import JvmDerived.Pilot.@@N@@Code
set_option linter.unusedVariables false
set_option linter.unusedSimpArgs false

/-! An interface call whose reference lands in another class's method (Object.toString by way of Collection), without the word that this method is public: the link word's own access test serves -/
namespace Jvm.OwnKit
open Sem ClassFile Op Lib Jvm.Stand Jvm.Free Jvm.LawKit Jvm.RoadKit
section IfUp
variable {p : Program} {l : Launch} {e : Env} {R : Room} {s : State} {m : MethodId} {args : Array Value} {below : List Frame} {meth : Method} {c : Code} {T : State} {locs : List Loc} {cells slots : Nat}
end IfUp
end Jvm.OwnKit
namespace Jvm.OwnKit
open Sem ClassFile Op Lib Jvm.Stand Jvm.Free Jvm.LawKit Jvm.RoadKit
/-! ## What is owed from a state on, and where a walk stands: one bundle a walk -/
def Go (tb : Tables) (e : Env) (below : List Frame) (P : Outcome → State → Prop) (A : State) : Prop := ∃ s₂ o, Steps tb e below A s₂ ∧ s₂.status = .running ∧ Ended s₂ below o ∧ P o s₂
theorem Go.go {tb : Tables} {e : Env} {below : List Frame} {P : Outcome → State → Prop} {A B : State} (st : ∀ t, Steps tb e below B t → Steps tb e below A t) (k : Go tb e below P B) : Go tb e below P A := by
  obtain ⟨s2, o, h, r⟩ := k
  exact ⟨s2, o, st _ h, r⟩
theorem Go.cast {tb : Tables} {e : Env} {below : List Frame} {P : Outcome → State → Prop} {T : State} {g g' : JFrame} (q : g = g') (k : Go tb e below P (T.setTop g')) : Go tb e below P (T.setTop g) := q ▸ k
def QQ (h0 : Heap) (n0 : Nat) (ws : List Addr) (Po : Option Value → Heap → Vm → Prop) (v : Option Value) (h : Heap) (vm : Vm) (L : List Loc) : Prop := Fr n0 L ∧ Keep h0 h ws ∧ Po v h vm
def PO (s : State) (R : Room) (h0 : Heap) (n0 : Nat) (ws : List Addr) (Z : State) (EL : List (String × Nat)) (Po : Option Value → Heap → Vm → Prop) (o : Outcome) (t : State) : Prop := ∃ v L, o = .returned v ∧ QQ h0 n0 ws Po v t.heap t.vm L ∧ CHr Z EL s.vm s.heap t.vm t.heap ∧ ReturnedEndW s o t L R.cells R.slots
def KnP (kn : Bool) (vm : Vm) (below : List Frame) : Prop := kn = true → vm.MethodsKnown ∧ vm.FramesKnown below
theorem KnP.alike {kn : Bool} {vm vm' : Vm} {below : List Frame} (h : KnP kn vm below) (ha : vm.Alike vm') : KnP kn vm' below := fun q => ⟨Vm.MethodsKnown.alikeC ha (h q).1, Vm.FramesKnown.alikeC ha (h q).2⟩
def Met (l : Launch) (y : MethodName) (bytes : ByteArray) (maxL : Nat) (ret : Option FieldType) (wl : List Cond) (rm : Room) (Z : State) (as' : Array Value) (h0 : Heap) (n0 : Nat) (ws : List Addr) (EL : List (String × Nat)) (kn : Bool) (sf : List Addr) (Po : Option Value → Heap → Vm → Prop) : Prop :=
  MetFree l y (head1 (Cond.code y bytes maxL ret :: wl) rm) (fun a U => a = as' ∧ Z.Warmed39 U.vm ∧ U.heap = h0 ∧ CHv Z EL U.vm h0 ∧ ∀ x ∈ sf, Safe Z EL U.vm h0 x) (fun _ _ bl s _ => KnP kn s.vm bl) (fun _ U o U' => ∃ v L, o = .returned v ∧ QQ h0 n0 ws Po v U'.heap U'.vm L ∧ CHr Z EL U.vm U.heap U'.vm U'.heap ∧ ReturnedEndW U o U' L rm.cells rm.slots)
def Here (p : Program) (l : Launch) (e : Env) (R : Room) (s : State) (m : MethodId) (args : Array Value) (below : List Frame) (meth : Method) (c : Code) (Z : State) (bytes : ByteArray) (maxL : Nat) (ret : Option FieldType) (own nm : String) (h0 : Heap) (n0 : Nat) (ws : List Addr) (EL : List (String × Nat)) (kn : Bool)
    (T : State) (h : Heap) (vm0 : Vm) (cells slots : Nat) : Prop :=
  ∃ k0 locs, Stand p l e R (s.setVm vm0) m args below meth c T locs cells slots ∧ Fr n0 locs ∧ T.heap = h ∧ Old Z n0 h ∧ Keep h0 h ws ∧ p.tables.exec = Jvm.exec ∧ c.code = bytes ∧ c.maxLocals = maxL ∧ meth.sig.returnType = ret ∧ meth.locks = false ∧ vm0.findClass own = some m.cls ∧ meth.name = nm ∧ Z.Warmed39 vm0 ∧ s.Since vm0 k0 ∧ k0 ≤ h.size ∧ CHr Z EL s.vm h0 vm0 h ∧ (∃ a1, EW Z a1 EL) ∧ KnP kn vm0 below ∧ s.heap = h0
section Own
variable {p : Program} {l : Launch} {e : Env} {R : Room} {s : State} {m : MethodId} {args : Array Value} {below : List Frame} {meth : Method} {c : Code} {T : State} {locs : List Loc} {cells slots : Nat} {Z : State} {a0 : Array Value} {h : Heap}
end Own
section Kit
variable {p : Program} {l : Launch} {e : Env} {R : Room} {s : State} {m : MethodId} {args : Array Value} {below : List Frame} {meth : Method} {c : Code} {Z : State} {bytes : ByteArray} {maxL : Nat} {ret : Option FieldType} {own nm : String} {h0 : Heap} {n0 : Nat} {ws : List Addr} {T : State} {h : Heap} {cells slots : Nat} {P : Outcome → State → Prop} {pc : Nat} (pc' : Nat) {Ls : Array Slot} {st rest : List Value} {a0 : Array Value} {EL : List (String × Nat)} {kn : Bool} {vm0 : Vm} {sf : List Addr}
theorem met_intro {y : MethodName} {wl : List Cond} {as' : Array Value} {Po : Option Value → Heap → Vm → Prop} (hpn : plainFor y = true) (hc0 : y.cls = own) (hn0 : y.name = nm) (O : Old Z n0 h0) (hew : EW Z a0 EL)
    (body : ∀ p e s m below meth c s₁, Here p l e R s m as' below meth c Z bytes maxL ret own nm h0 n0 ws EL kn s₁ h0 s.vm 0 0 → (∀ x ∈ sf, Safe Z EL s.vm h0 x) → Go p.tables e below (PO s R h0 n0 ws Z EL Po) (s₁.setTop (entryFrame m as' maxL))) : Met l y bytes maxL ret wl R Z as' h0 n0 ws EL kn sf Po := by
  subst hc0 hn0
  refine MetFree.of_bodySF hpn hisR ?_
  intro p e s m args below meth c s₁ Bd hml0 hP hK
  obtain ⟨rfl, hZ, hh, hCH, hsf⟩ := hP
  have e0 : s₁.heap = h0 := by rw [← hh, Bd.state]; rfl
  exact body p e s m below meth c s₁ ⟨h0.size, [], Stand.of_body Bd, Fr.nil n0, e0, O, Keep.refl h0 ws, Bd.exec, Bd.bytes, hml0, Bd.returns, BodyLoose.notSynchronized Bd, findClass_of_methodNamed Bd.named, (name_of_methodNamed Bd.named Bd.method).1, hZ, (State.WarmedH.refl s).since _, Nat.le_refl _, CHr.refl hCH, ⟨a0, hew⟩, hK, hh⟩ hsf
theorem Here.old (X : Here p l e R s m args below meth c Z bytes maxL ret own nm h0 n0 ws EL kn T h vm0 cells slots) : Old Z n0 h := by obtain ⟨_, _, _, _, _, q, _⟩ := X; exact q
theorem Here.keep (X : Here p l e R s m args below meth c Z bytes maxL ret own nm h0 n0 ws EL kn T h vm0 cells slots) : Keep h0 h ws := by obtain ⟨_, _, _, _, _, _, q, _⟩ := X; exact q
theorem Here.zv (X : Here p l e R s m args below meth c Z bytes maxL ret own nm h0 n0 ws EL kn T h vm0 cells slots) : Z.Warmed39 vm0 := by obtain ⟨_, _, _, _, _, _, _, _, _, _, _, _, _, _, q, _⟩ := X; exact q
theorem Here.al (X : Here p l e R s m args below meth c Z bytes maxL ret own nm h0 n0 ws EL kn T h vm0 cells slots) : Z.vm.Alike vm0 := X.zv.alike
theorem Here.n0le (X : Here p l e R s m args below meth c Z bytes maxL ret own nm h0 n0 ws EL kn T h vm0 cells slots) : n0 ≤ h.size := by have q := X.old; rw [← q.1]; exact q.2.1
theorem oI {k : Fin 4} {v : Int32} (X : Here p l e R s m args below meth c Z bytes maxL ret own nm h0 n0 ws EL kn T h vm0 cells slots) (hd : decode bytes pc = .ok (.iload_n k, 1)) (hp : pc + 1 = pc') (hl : Ls[k.val]? = some (.val (.int v)))
    (k : Go p.tables e below P (T.setTop (mkF m pc' Ls (.int v :: st)))) : Go p.tables e below P (T.setTop (mkF m pc Ls st)) := by
  obtain ⟨k0, locs, Y, N, eT, O, K, hx, hby, hml, hret, hlk, hown, hnm, hZ, hS, hk, hC, hEW, hKn, hsh⟩ := X
  subst hp
  exact Go.go (fun t q => XS.iloadN Y.here hx rfl (hb hby hd) hl q) k
theorem oi {k : Nat} {v : Int32} (X : Here p l e R s m args below meth c Z bytes maxL ret own nm h0 n0 ws EL kn T h vm0 cells slots) (hd : decode bytes pc = .ok (.iload k, 2)) (hp : pc + 2 = pc') (hl : Ls[k]? = some (.val (.int v)))
    (k : Go p.tables e below P (T.setTop (mkF m pc' Ls (.int v :: st)))) : Go p.tables e below P (T.setTop (mkF m pc Ls st)) := by
  obtain ⟨k0, locs, Y, N, eT, O, K, hx, hby, hml, hret, hlk, hown, hnm, hZ, hS, hk, hC, hEW, hKn, hsh⟩ := X
  subst hp
  exact Go.go (fun t q => XS.iload Y.here hx rfl (hb hby hd) hl q) k
theorem o_aloadN {k : Fin 4} {v : Value} (X : Here p l e R s m args below meth c Z bytes maxL ret own nm h0 n0 ws EL kn T h vm0 cells slots) (hd : decode bytes pc = .ok (.aload_n k, 1)) (hp : pc + 1 = pc') (hl : Ls[k.val]? = some (.val v)) (hv : v.isRef = true)
    (k : Go p.tables e below P (T.setTop (mkF m pc' Ls (v :: st)))) : Go p.tables e below P (T.setTop (mkF m pc Ls st)) := by
  obtain ⟨k0, locs, Y, N, eT, O, K, hx, hby, hml, hret, hlk, hown, hnm, hZ, hS, hk, hC, hEW, hKn, hsh⟩ := X
  subst hp
  exact Go.go (fun t q => XS.aloadN Y.here hx rfl (hb hby hd) hl hv q) k
theorem o_aload {k : Nat} {v : Value} (X : Here p l e R s m args below meth c Z bytes maxL ret own nm h0 n0 ws EL kn T h vm0 cells slots) (hd : decode bytes pc = .ok (.aload k, 2)) (hp : pc + 2 = pc') (hl : Ls[k]? = some (.val v)) (hv : v.isRef = true)
    (k : Go p.tables e below P (T.setTop (mkF m pc' Ls (v :: st)))) : Go p.tables e below P (T.setTop (mkF m pc Ls st)) := by
  obtain ⟨k0, locs, Y, N, eT, O, K, hx, hby, hml, hret, hlk, hown, hnm, hZ, hS, hk, hC, hEW, hKn, hsh⟩ := X
  subst hp
  exact Go.go (fun t q => XS.aload Y.here hx rfl (hb hby hd) hl hv q) k
theorem oT {k : Fin 4} {x : Int32} {l' : Array Slot} (X : Here p l e R s m args below meth c Z bytes maxL ret own nm h0 n0 ws EL kn T h vm0 cells slots) (hd : decode bytes pc = .ok (.istore_n k, 1)) (hp : pc + 1 = pc') (hl : storeLocals Ls k.val (.int x) = some l')
    (k : Go p.tables e below P (T.setTop (mkF m pc' l' st))) : Go p.tables e below P (T.setTop (mkF m pc Ls (.int x :: st))) := by
  obtain ⟨k0, locs, Y, N, eT, O, K, hx, hby, hml, hret, hlk, hown, hnm, hZ, hS, hk, hC, hEW, hKn, hsh⟩ := X
  subst hp
  exact Go.go (fun t q => XS.istoreN Y.here hx rfl (hb hby hd) rfl hl q) k
theorem oS {k : Nat} {x : Int32} {l' : Array Slot} (X : Here p l e R s m args below meth c Z bytes maxL ret own nm h0 n0 ws EL kn T h vm0 cells slots) (hd : decode bytes pc = .ok (.istore k, 2)) (hp : pc + 2 = pc') (hl : storeLocals Ls k (.int x) = some l')
    (k : Go p.tables e below P (T.setTop (mkF m pc' l' st))) : Go p.tables e below P (T.setTop (mkF m pc Ls (.int x :: st))) := by
  obtain ⟨k0, locs, Y, N, eT, O, K, hx, hby, hml, hret, hlk, hown, hnm, hZ, hS, hk, hC, hEW, hKn, hsh⟩ := X
  subst hp
  exact Go.go (fun t q => XS.istore Y.here hx rfl (hb hby hd) rfl hl q) k
theorem oV {k : Fin 4} {v : Value} {l' : Array Slot} (X : Here p l e R s m args below meth c Z bytes maxL ret own nm h0 n0 ws EL kn T h vm0 cells slots) (hd : decode bytes pc = .ok (.astore_n k, 1)) (hp : pc + 1 = pc') (hv : v.isRef = true) (hl : storeLocals Ls k.val v = some l')
    (k : Go p.tables e below P (T.setTop (mkF m pc' l' st))) : Go p.tables e below P (T.setTop (mkF m pc Ls (v :: st))) := by
  obtain ⟨k0, locs, Y, N, eT, O, K, hx, hby, hml, hret, hlk, hown, hnm, hZ, hS, hk, hC, hEW, hKn, hsh⟩ := X
  subst hp
  exact Go.go (fun t q => XS.astoreN Y.here hx rfl (hb hby hd) rfl hv hl q) k
theorem oU {k : Nat} {v : Value} {l' : Array Slot} (X : Here p l e R s m args below meth c Z bytes maxL ret own nm h0 n0 ws EL kn T h vm0 cells slots) (hd : decode bytes pc = .ok (.astore k, 2)) (hp : pc + 2 = pc') (hv : v.isRef = true) (hl : storeLocals Ls k v = some l')
    (k : Go p.tables e below P (T.setTop (mkF m pc' l' st))) : Go p.tables e below P (T.setTop (mkF m pc Ls (v :: st))) := by
  obtain ⟨k0, locs, Y, N, eT, O, K, hx, hby, hml, hret, hlk, hown, hnm, hZ, hS, hk, hC, hEW, hKn, hsh⟩ := X
  subst hp
  exact Go.go (fun t q => XS.astore Y.here hx rfl (hb hby hd) rfl hv hl q) k
theorem oc {i : Int} {v : Int32} (X : Here p l e R s m args below meth c Z bytes maxL ret own nm h0 n0 ws EL kn T h vm0 cells slots) (hd : decode bytes pc = .ok (.iconst i, 1)) (hp : pc + 1 = pc') (hv : Int32.ofInt i = v)
    (k : Go p.tables e below P (T.setTop (mkF m pc' Ls (.int v :: st)))) : Go p.tables e below P (T.setTop (mkF m pc Ls st)) := by
  obtain ⟨k0, locs, Y, N, eT, O, K, hx, hby, hml, hret, hlk, hown, hnm, hZ, hS, hk, hC, hEW, hKn, hsh⟩ := X
  subst hp hv
  exact Go.go (fun t q => XS.iconst Y.here hx rfl (hb hby hd) q) k
theorem ob {i : Int} {v : Int32} (X : Here p l e R s m args below meth c Z bytes maxL ret own nm h0 n0 ws EL kn T h vm0 cells slots) (hd : decode bytes pc = .ok (.bipush i, 2)) (hp : pc + 2 = pc') (hv : (Int8.ofInt i).toInt32 = v)
    (k : Go p.tables e below P (T.setTop (mkF m pc' Ls (.int v :: st)))) : Go p.tables e below P (T.setTop (mkF m pc Ls st)) := by
  obtain ⟨k0, locs, Y, N, eT, O, K, hx, hby, hml, hret, hlk, hown, hnm, hZ, hS, hk, hC, hEW, hKn, hsh⟩ := X
  subst hp hv
  exact Go.go (fun t q => XS.bipush Y.here hx rfl (hb hby hd) q) k
theorem o_sipush {i : Int} {v : Int32} (X : Here p l e R s m args below meth c Z bytes maxL ret own nm h0 n0 ws EL kn T h vm0 cells slots) (hd : decode bytes pc = .ok (.sipush i, 3)) (hp : pc + 3 = pc') (hv : (Int16.ofInt i).toInt32 = v)
    (k : Go p.tables e below P (T.setTop (mkF m pc' Ls (.int v :: st)))) : Go p.tables e below P (T.setTop (mkF m pc Ls st)) := by
  obtain ⟨k0, locs, Y, N, eT, O, K, hx, hby, hml, hret, hlk, hown, hnm, hZ, hS, hk, hC, hEW, hKn, hsh⟩ := X
  subst hp hv
  exact Go.go (fun t q => XS.sipush Y.here hx rfl (hb hby hd) q) k
theorem o_aconstNull  (X : Here p l e R s m args below meth c Z bytes maxL ret own nm h0 n0 ws EL kn T h vm0 cells slots) (hd : decode bytes pc = .ok (.aconst_null, 1)) (hp : pc + 1 = pc') 
    (k : Go p.tables e below P (T.setTop (mkF m pc' Ls (.null :: st)))) : Go p.tables e below P (T.setTop (mkF m pc Ls st)) := by
  obtain ⟨k0, locs, Y, N, eT, O, K, hx, hby, hml, hret, hlk, hown, hnm, hZ, hS, hk, hC, hEW, hKn, hsh⟩ := X
  subst hp
  exact Go.go (fun t q => XS.aconstNull Y.here hx rfl (hb hby hd)  q) k
theorem o_isub {x y : Int32} {v : Int32} (X : Here p l e R s m args below meth c Z bytes maxL ret own nm h0 n0 ws EL kn T h vm0 cells slots) (hd : decode bytes pc = .ok (.isub, 1)) (hp : pc + 1 = pc')  (hv : x - y = v)
    (k : Go p.tables e below P (T.setTop (mkF m pc' Ls (.int v :: st)))) : Go p.tables e below P (T.setTop (mkF m pc Ls (.int y :: .int x :: st))) := by
  obtain ⟨k0, locs, Y, N, eT, O, K, hx, hby, hml, hret, hlk, hown, hnm, hZ, hS, hk, hC, hEW, hKn, hsh⟩ := X
  subst hp hv
  exact Go.go (fun t q => XS.isub Y.here hx rfl (hb hby hd) rfl q) k
theorem o_iand {x y : Int32} {v : Int32} (X : Here p l e R s m args below meth c Z bytes maxL ret own nm h0 n0 ws EL kn T h vm0 cells slots) (hd : decode bytes pc = .ok (.iand, 1)) (hp : pc + 1 = pc')  (hv : x &&& y = v)
    (k : Go p.tables e below P (T.setTop (mkF m pc' Ls (.int v :: st)))) : Go p.tables e below P (T.setTop (mkF m pc Ls (.int y :: .int x :: st))) := by
  obtain ⟨k0, locs, Y, N, eT, O, K, hx, hby, hml, hret, hlk, hown, hnm, hZ, hS, hk, hC, hEW, hKn, hsh⟩ := X
  subst hp hv
  exact Go.go (fun t q => XS.iand Y.here hx rfl (hb hby hd) rfl q) k
theorem o_ishr {x y : Int32} {v : Int32} (X : Here p l e R s m args below meth c Z bytes maxL ret own nm h0 n0 ws EL kn T h vm0 cells slots) (hd : decode bytes pc = .ok (.ishr, 1)) (hp : pc + 1 = pc')  (hv : x >>> (y &&& 31) = v)
    (k : Go p.tables e below P (T.setTop (mkF m pc' Ls (.int v :: st)))) : Go p.tables e below P (T.setTop (mkF m pc Ls (.int y :: .int x :: st))) := by
  obtain ⟨k0, locs, Y, N, eT, O, K, hx, hby, hml, hret, hlk, hown, hnm, hZ, hS, hk, hC, hEW, hKn, hsh⟩ := X
  subst hp hv
  exact Go.go (fun t q => XS.ishr Y.here hx rfl (hb hby hd) rfl q) k
theorem o_iushr {x y : Int32} {v : Int32} (X : Here p l e R s m args below meth c Z bytes maxL ret own nm h0 n0 ws EL kn T h vm0 cells slots) (hd : decode bytes pc = .ok (.iushr, 1)) (hp : pc + 1 = pc')  (hv : (x.toUInt32 >>> (y &&& 31).toUInt32).toInt32 = v)
    (k : Go p.tables e below P (T.setTop (mkF m pc' Ls (.int v :: st)))) : Go p.tables e below P (T.setTop (mkF m pc Ls (.int y :: .int x :: st))) := by
  obtain ⟨k0, locs, Y, N, eT, O, K, hx, hby, hml, hret, hlk, hown, hnm, hZ, hS, hk, hC, hEW, hKn, hsh⟩ := X
  subst hp hv
  exact Go.go (fun t q => XS.iushr Y.here hx rfl (hb hby hd) rfl q) k
theorem o_irem {x y : Int32} {v : Int32} (X : Here p l e R s m args below meth c Z bytes maxL ret own nm h0 n0 ws EL kn T h vm0 cells slots) (hd : decode bytes pc = .ok (.irem, 1)) (hp : pc + 1 = pc') (hy : y ≠ 0) (hv : x % y = v)
    (k : Go p.tables e below P (T.setTop (mkF m pc' Ls (.int v :: st)))) : Go p.tables e below P (T.setTop (mkF m pc Ls (.int y :: .int x :: st))) := by
  obtain ⟨k0, locs, Y, N, eT, O, K, hx, hby, hml, hret, hlk, hown, hnm, hZ, hS, hk, hC, hEW, hKn, hsh⟩ := X
  subst hp hv
  exact Go.go (fun t q => iremM Y hx rfl (hb hby hd) rfl hy q) k
theorem o_i2b {x : Int32} {v : Int32} (X : Here p l e R s m args below meth c Z bytes maxL ret own nm h0 n0 ws EL kn T h vm0 cells slots) (hd : decode bytes pc = .ok (.i2b, 1)) (hp : pc + 1 = pc')  (hv : x.toInt8.toInt32 = v)
    (k : Go p.tables e below P (T.setTop (mkF m pc' Ls (.int v :: st)))) : Go p.tables e below P (T.setTop (mkF m pc Ls (.int x :: st))) := by
  obtain ⟨k0, locs, Y, N, eT, O, K, hx, hby, hml, hret, hlk, hown, hnm, hZ, hS, hk, hC, hEW, hKn, hsh⟩ := X
  subst hp hv
  exact Go.go (fun t q => XS.i2b Y.here hx rfl (hb hby hd) rfl q) k
theorem o_i2c {x : Int32} {v : Int32} (X : Here p l e R s m args below meth c Z bytes maxL ret own nm h0 n0 ws EL kn T h vm0 cells slots) (hd : decode bytes pc = .ok (.i2c, 1)) (hp : pc + 1 = pc')  (hv : x.toUInt32.toUInt16.toUInt32.toInt32 = v)
    (k : Go p.tables e below P (T.setTop (mkF m pc' Ls (.int v :: st)))) : Go p.tables e below P (T.setTop (mkF m pc Ls (.int x :: st))) := by
  obtain ⟨k0, locs, Y, N, eT, O, K, hx, hby, hml, hret, hlk, hown, hnm, hZ, hS, hk, hC, hEW, hKn, hsh⟩ := X
  subst hp hv
  exact Go.go (fun t q => XS.i2c Y.here hx rfl (hb hby hd) rfl q) k
theorem oJ (y : Int32) (l' : Array Slot) {k : Nat} {i : Int} {x : Int32} (X : Here p l e R s m args below meth c Z bytes maxL ret own nm h0 n0 ws EL kn T h vm0 cells slots) (hd : decode bytes pc = .ok (.iinc k i, 3)) (hp : pc + 3 = pc') (hl : Ls[k]? = some (.val (.int x))) (hy : x + Int32.ofInt i = y) (hl' : storeLocals Ls k (.int y) = some l')
    (k : Go p.tables e below P (T.setTop (mkF m pc' l' st))) : Go p.tables e below P (T.setTop (mkF m pc Ls st)) := by
  obtain ⟨k0, locs, Y, N, eT, O, K, hx, hby, hml, hret, hlk, hown, hnm, hZ, hS, hk, hC, hEW, hKn, hsh⟩ := X
  subst hp
  exact Go.go (fun t q => XS.iinc Y.here hx rfl (hb hby hd) hl (hy ▸ hl') q) k
theorem oA {k : Fin 4} {a : Addr} (X : Here p l e R s m args below meth c Z bytes maxL ret own nm h0 n0 ws EL kn T h vm0 cells slots) (hd : decode bytes pc = .ok (.aload_n k, 1)) (hp : pc + 1 = pc') (hl : Ls[k.val]? = some (.val (.ref a)))
    (k' : Go p.tables e below P (T.setTop (mkF m pc' Ls (.ref a :: st)))) : Go p.tables e below P (T.setTop (mkF m pc Ls st)) := o_aloadN pc' X hd hp hl rfl k'
theorem oa {k : Nat} {a : Addr} (X : Here p l e R s m args below meth c Z bytes maxL ret own nm h0 n0 ws EL kn T h vm0 cells slots) (hd : decode bytes pc = .ok (.aload k, 2)) (hp : pc + 2 = pc') (hl : Ls[k]? = some (.val (.ref a)))
    (k' : Go p.tables e below P (T.setTop (mkF m pc' Ls (.ref a :: st)))) : Go p.tables e below P (T.setTop (mkF m pc Ls st)) := o_aload pc' X hd hp hl rfl k'
theorem oD {x : Value} (X : Here p l e R s m args below meth c Z bytes maxL ret own nm h0 n0 ws EL kn T h vm0 cells slots) (hd : decode bytes pc = .ok (.dup, 1)) (hp : pc + 1 = pc') (hc : x.category = 1)
    (k : Go p.tables e below P (T.setTop (mkF m pc' Ls (x :: x :: st)))) : Go p.tables e below P (T.setTop (mkF m pc Ls (x :: st))) := by
  obtain ⟨k0, locs, Y, N, eT, O, K, hx, hby, hml, hret, hlk, hown, hnm, hZ, hS, hk, hC, hEW, hKn, hsh⟩ := X
  subst hp
  exact Go.go (fun t q => XS.dup Y.here hx rfl (hb hby hd) rfl hc q) k
theorem o_pop {x : Value} (X : Here p l e R s m args below meth c Z bytes maxL ret own nm h0 n0 ws EL kn T h vm0 cells slots) (hd : decode bytes pc = .ok (.pop, 1)) (hp : pc + 1 = pc') (hc : x.category = 1)
    (k : Go p.tables e below P (T.setTop (mkF m pc' Ls st))) : Go p.tables e below P (T.setTop (mkF m pc Ls (x :: st))) := by
  obtain ⟨k0, locs, Y, N, eT, O, K, hx, hby, hml, hret, hlk, hown, hnm, hZ, hS, hk, hC, hEW, hKn, hsh⟩ := X
  subst hp
  exact Go.go (fun t q => XS.pop Y.here hx rfl (hb hby hd) rfl hc q) k
theorem o_goto  {o : Int} (X : Here p l e R s m args below meth c Z bytes maxL ret own nm h0 n0 ws EL kn T h vm0 cells slots) (hd : decode bytes pc = .ok (.goto o, 3)) (ho : 0 ≤ (pc : Int) + o) (hp : ((pc : Int) + o).toNat = pc') 
    (k : Go p.tables e below P (T.setTop (mkF m pc' Ls st))) : Go p.tables e below P (T.setTop (mkF m pc Ls st)) := by
  obtain ⟨k0, locs, Y, N, eT, O, K, hx, hby, hml, hret, hlk, hown, hnm, hZ, hS, hk, hC, hEW, hKn, hsh⟩ := X
  exact Go.go (fun t q => XS.goto Y.here hx rfl (pc0 := pc) (pc' := pc') rfl (hb hby hd)  ho hp q) k
theorem og  {o : Int} (X : Here p l e R s m args below meth c Z bytes maxL ret own nm h0 n0 ws EL kn T h vm0 cells slots) (hd : decode bytes pc = .ok (.goto o, 3)) (hj : 0 ≤ (pc : Int) + o ∧ ((pc : Int) + o).toNat = pc') 
    (k : Go p.tables e below P (T.setTop (mkF m pc' Ls st))) : Go p.tables e below P (T.setTop (mkF m pc Ls st)) := o_goto pc' X hd hj.1 hj.2  k
theorem o_ifYes {cd : ClassFile.Cond} {x : Int32} {o : Int} (X : Here p l e R s m args below meth c Z bytes maxL ret own nm h0 n0 ws EL kn T h vm0 cells slots) (hd : decode bytes pc = .ok (.ifCond cd o, 3)) (ho : 0 ≤ (pc : Int) + o) (hp : ((pc : Int) + o).toNat = pc') (hc : ifCond.holds cd x = true)
    (k : Go p.tables e below P (T.setTop (mkF m pc' Ls st))) : Go p.tables e below P (T.setTop (mkF m pc Ls (.int x :: st))) := by
  obtain ⟨k0, locs, Y, N, eT, O, K, hx, hby, hml, hret, hlk, hown, hnm, hZ, hS, hk, hC, hEW, hKn, hsh⟩ := X
  exact Go.go (fun t q => XS.ifYes Y.here hx rfl (pc0 := pc) (pc' := pc') rfl (hb hby hd) rfl hc ho hp q) k
theorem oy {cd : ClassFile.Cond} {x : Int32} {o : Int} (X : Here p l e R s m args below meth c Z bytes maxL ret own nm h0 n0 ws EL kn T h vm0 cells slots) (hd : decode bytes pc = .ok (.ifCond cd o, 3)) (hj : 0 ≤ (pc : Int) + o ∧ ((pc : Int) + o).toNat = pc') (hc : ifCond.holds cd x = true)
    (k : Go p.tables e below P (T.setTop (mkF m pc' Ls st))) : Go p.tables e below P (T.setTop (mkF m pc Ls (.int x :: st))) := o_ifYes pc' X hd hj.1 hj.2 hc k
theorem on {cd : ClassFile.Cond} {x : Int32} {o : Int} (X : Here p l e R s m args below meth c Z bytes maxL ret own nm h0 n0 ws EL kn T h vm0 cells slots) (hd : decode bytes pc = .ok (.ifCond cd o, 3)) (hp : pc + 3 = pc') (hc : ifCond.holds cd x = false)
    (k : Go p.tables e below P (T.setTop (mkF m pc' Ls st))) : Go p.tables e below P (T.setTop (mkF m pc Ls (.int x :: st))) := by
  obtain ⟨k0, locs, Y, N, eT, O, K, hx, hby, hml, hret, hlk, hown, hnm, hZ, hS, hk, hC, hEW, hKn, hsh⟩ := X
  subst hp
  exact Go.go (fun t q => XS.ifNo Y.here hx rfl (hb hby hd) rfl hc q) k
theorem o_icmpYes {cd : ClassFile.Cond} {x y : Int32} {o : Int} (X : Here p l e R s m args below meth c Z bytes maxL ret own nm h0 n0 ws EL kn T h vm0 cells slots) (hd : decode bytes pc = .ok (.if_icmp cd o, 3)) (ho : 0 ≤ (pc : Int) + o) (hp : ((pc : Int) + o).toNat = pc') (hc : if_icmp.holds cd x y = true)
    (k : Go p.tables e below P (T.setTop (mkF m pc' Ls st))) : Go p.tables e below P (T.setTop (mkF m pc Ls (.int y :: .int x :: st))) := by
  obtain ⟨k0, locs, Y, N, eT, O, K, hx, hby, hml, hret, hlk, hown, hnm, hZ, hS, hk, hC, hEW, hKn, hsh⟩ := X
  exact Go.go (fun t q => XS.icmpYes Y.here hx rfl (pc0 := pc) (pc' := pc') rfl (hb hby hd) rfl hc ho hp q) k
theorem oY {cd : ClassFile.Cond} {x y : Int32} {o : Int} (X : Here p l e R s m args below meth c Z bytes maxL ret own nm h0 n0 ws EL kn T h vm0 cells slots) (hd : decode bytes pc = .ok (.if_icmp cd o, 3)) (hj : 0 ≤ (pc : Int) + o ∧ ((pc : Int) + o).toNat = pc') (hc : if_icmp.holds cd x y = true)
    (k : Go p.tables e below P (T.setTop (mkF m pc' Ls st))) : Go p.tables e below P (T.setTop (mkF m pc Ls (.int y :: .int x :: st))) := o_icmpYes pc' X hd hj.1 hj.2 hc k
theorem oN {cd : ClassFile.Cond} {x y : Int32} {o : Int} (X : Here p l e R s m args below meth c Z bytes maxL ret own nm h0 n0 ws EL kn T h vm0 cells slots) (hd : decode bytes pc = .ok (.if_icmp cd o, 3)) (hp : pc + 3 = pc') (hc : if_icmp.holds cd x y = false)
    (k : Go p.tables e below P (T.setTop (mkF m pc' Ls st))) : Go p.tables e below P (T.setTop (mkF m pc Ls (.int y :: .int x :: st))) := by
  obtain ⟨k0, locs, Y, N, eT, O, K, hx, hby, hml, hret, hlk, hown, hnm, hZ, hS, hk, hC, hEW, hKn, hsh⟩ := X
  subst hp
  exact Go.go (fun t q => XS.icmpNo Y.here hx rfl (hb hby hd) rfl hc q) k
theorem o_ifnullYes  {o : Int} (X : Here p l e R s m args below meth c Z bytes maxL ret own nm h0 n0 ws EL kn T h vm0 cells slots) (hd : decode bytes pc = .ok (.ifnull o, 3)) (ho : 0 ≤ (pc : Int) + o) (hp : ((pc : Int) + o).toNat = pc') 
    (k : Go p.tables e below P (T.setTop (mkF m pc' Ls st))) : Go p.tables e below P (T.setTop (mkF m pc Ls (.null :: st))) := by
  obtain ⟨k0, locs, Y, N, eT, O, K, hx, hby, hml, hret, hlk, hown, hnm, hZ, hS, hk, hC, hEW, hKn, hsh⟩ := X
  exact Go.go (fun t q => XS.ifnullYes Y.here hx rfl (pc0 := pc) (pc' := pc') rfl (hb hby hd) rfl  ho hp q) k
theorem ifnullYesJ  {o : Int} (X : Here p l e R s m args below meth c Z bytes maxL ret own nm h0 n0 ws EL kn T h vm0 cells slots) (hd : decode bytes pc = .ok (.ifnull o, 3)) (hj : 0 ≤ (pc : Int) + o ∧ ((pc : Int) + o).toNat = pc') 
    (k : Go p.tables e below P (T.setTop (mkF m pc' Ls st))) : Go p.tables e below P (T.setTop (mkF m pc Ls (.null :: st))) := o_ifnullYes pc' X hd hj.1 hj.2  k
theorem o_ifnullNo {b : Addr} {o : Int} (X : Here p l e R s m args below meth c Z bytes maxL ret own nm h0 n0 ws EL kn T h vm0 cells slots) (hd : decode bytes pc = .ok (.ifnull o, 3)) (hp : pc + 3 = pc') 
    (k : Go p.tables e below P (T.setTop (mkF m pc' Ls st))) : Go p.tables e below P (T.setTop (mkF m pc Ls (.ref b :: st))) := by
  obtain ⟨k0, locs, Y, N, eT, O, K, hx, hby, hml, hret, hlk, hown, hnm, hZ, hS, hk, hC, hEW, hKn, hsh⟩ := X
  subst hp
  exact Go.go (fun t q => XS.ifnullNo Y.here hx rfl (hb hby hd) rfl  q) k
theorem o_ifnonnullYes {b : Addr} {o : Int} (X : Here p l e R s m args below meth c Z bytes maxL ret own nm h0 n0 ws EL kn T h vm0 cells slots) (hd : decode bytes pc = .ok (.ifnonnull o, 3)) (ho : 0 ≤ (pc : Int) + o) (hp : ((pc : Int) + o).toNat = pc') 
    (k : Go p.tables e below P (T.setTop (mkF m pc' Ls st))) : Go p.tables e below P (T.setTop (mkF m pc Ls (.ref b :: st))) := by
  obtain ⟨k0, locs, Y, N, eT, O, K, hx, hby, hml, hret, hlk, hown, hnm, hZ, hS, hk, hC, hEW, hKn, hsh⟩ := X
  exact Go.go (fun t q => XS.ifnonnullYes Y.here hx rfl (pc0 := pc) (pc' := pc') rfl (hb hby hd) rfl  ho hp q) k
theorem ifnonnullYesJ {b : Addr} {o : Int} (X : Here p l e R s m args below meth c Z bytes maxL ret own nm h0 n0 ws EL kn T h vm0 cells slots) (hd : decode bytes pc = .ok (.ifnonnull o, 3)) (hj : 0 ≤ (pc : Int) + o ∧ ((pc : Int) + o).toNat = pc') 
    (k : Go p.tables e below P (T.setTop (mkF m pc' Ls st))) : Go p.tables e below P (T.setTop (mkF m pc Ls (.ref b :: st))) := o_ifnonnullYes pc' X hd hj.1 hj.2  k
theorem o_acmp {cd : ACond} {x y : Value} {o : Int} {same : Bool} (X : Here p l e R s m args below meth c Z bytes maxL ret own nm h0 n0 ws EL kn T h vm0 cells slots) (hd : decode bytes pc = .ok (.if_acmp cd o, 3)) (h1 : x.isRef = true) (h2 : y.isRef = true) (hq : decide (x = y) = same) (ho : 0 ≤ (pc : Int) + o) (hp : pc' = if acV cd same = true then ((pc : Int) + o).toNat else pc + 3)
    (k : Go p.tables e below P (T.setTop (mkF m pc' Ls st))) : Go p.tables e below P (T.setTop (mkF m pc Ls (y :: x :: st))) := by
  obtain ⟨k0, locs, Y, N, eT, O, K, hx, hby, hml, hret, hlk, hown, hnm, hZ, hS, hk, hC, hEW, hKn, hsh⟩ := X
  exact Go.go (fun t q => RoadKit.acmp (g := mkF m pc Ls (y :: x :: st)) Y hx rfl h1 h2 (pc0 := pc) (pc' := pc') rfl (hb hby hd) rfl hq ho hp q) k
theorem oF {R0 O n d : String} {index : Nat} {a : Addr} {v : Value} (X : Here p l e R s m args below meth c Z bytes maxL ret own nm h0 n0 ws EL kn T h vm0 cells slots) (w : (Cond.fieldLink own index R0 n d).before a0 Z = true) (via : Via Z R0 O n d) (F : Fld Z h a O n d v) (hd : decode bytes pc = .ok (.getfield index, 3)) (hp : pc + 3 = pc')
    (k : ∀ T', Here p l e R s m args below meth c Z bytes maxL ret own nm h0 n0 ws EL kn T' h vm0 cells slots → Go p.tables e below P (T'.setTop (mkF m pc' Ls (v :: st)))) : Go p.tables e below P (T.setTop (mkF m pc Ls (.ref a :: st))) := by
  obtain ⟨k0, locs, Y, N, eT, O, K, hx, hby, hml, hret, hlk, hown, hnm, hZ, hS, hk, hC, hEW, hKn, hsh⟩ := X
  subst hp
  obtain ⟨T', Y', e', st'⟩ := RoadKit.getF Y hx hZ hown (host := "") (Or.inl w) via eT F (g := mkF m pc Ls (.ref a :: st)) rfl rfl (hb hby hd)
  exact Go.go st' (k T' ⟨k0, locs, Y', N, e', O, K, hx, hby, hml, hret, hlk, hown, hnm, hZ, hS, hk, hC, hEW, hKn, hsh⟩)
theorem oG {R0 O n d : String} {index : Nat} {v : Value} (X : Here p l e R s m args below meth c Z bytes maxL ret own nm h0 n0 ws EL kn T h vm0 cells slots) (w : (Cond.fieldLink own index R0 n d).before a0 Z = true) (via : Via Z R0 O n d) (F : Sta Z h O n d v) (hd : decode bytes pc = .ok (.getstatic index, 3)) (hp : pc + 3 = pc')
    (k : ∀ T', Here p l e R s m args below meth c Z bytes maxL ret own nm h0 n0 ws EL kn T' h vm0 cells slots → Go p.tables e below P (T'.setTop (mkF m pc' Ls (v :: st)))) : Go p.tables e below P (T.setTop (mkF m pc Ls st)) := by
  obtain ⟨k0, locs, Y, N, eT, O, K, hx, hby, hml, hret, hlk, hown, hnm, hZ, hS, hk, hC, hEW, hKn, hsh⟩ := X
  subst hp
  obtain ⟨T', Y', e', st'⟩ := getS2 Y hx hZ hown (host := "") (Or.inl w) via eT F (g := mkF m pc Ls st) rfl (hb hby hd)
  exact Go.go st' (k T' ⟨k0, locs, Y', N, e', O, K, hx, hby, hml, hret, hlk, hown, hnm, hZ, hS, hk, hC, hEW, hKn, hsh⟩)
theorem o_castY {K' : String} {index : Nat} {a : Addr} (X : Here p l e R s m args below meth c Z bytes maxL ret own nm h0 n0 ws EL kn T h vm0 cells slots) (w : (Cond.classLink own index K').before a0 Z = true) (F : Ins Z h a K' true) (hd : decode bytes pc = .ok (.checkcast index, 3)) (hp : pc + 3 = pc')
    (k : ∀ T', Here p l e R s m args below meth c Z bytes maxL ret own nm h0 n0 ws EL kn T' h vm0 cells slots → Go p.tables e below P (T'.setTop (mkF m pc' Ls (.ref a :: st)))) : Go p.tables e below P (T.setTop (mkF m pc Ls (.ref a :: st))) := by
  obtain ⟨k0, locs, Y, N, eT, O, K, hx, hby, hml, hret, hlk, hown, hnm, hZ, hS, hk, hC, hEW, hKn, hsh⟩ := X
  subst hp
  obtain ⟨T', Y', e', st'⟩ := RoadKit.castY Y hx hZ hown w eT F (g := mkF m pc Ls (.ref a :: st)) rfl rfl (hb hby hd)
  exact Go.go st' (k T' ⟨k0, locs, Y', N, e', O, K, hx, hby, hml, hret, hlk, hown, hnm, hZ, hS, hk, hC, hEW, hKn, hsh⟩)
theorem o_instY {K' : String} {index : Nat} {a : Addr} (X : Here p l e R s m args below meth c Z bytes maxL ret own nm h0 n0 ws EL kn T h vm0 cells slots) (w : (Cond.classLink own index K').before a0 Z = true) (F : Ins Z h a K' true) (hd : decode bytes pc = .ok (.instanceof index, 3)) (hp : pc + 3 = pc')
    (k : ∀ T', Here p l e R s m args below meth c Z bytes maxL ret own nm h0 n0 ws EL kn T' h vm0 cells slots → Go p.tables e below P (T'.setTop (mkF m pc' Ls (.int 1 :: st)))) : Go p.tables e below P (T.setTop (mkF m pc Ls (.ref a :: st))) := by
  obtain ⟨k0, locs, Y, N, eT, O, K, hx, hby, hml, hret, hlk, hown, hnm, hZ, hS, hk, hC, hEW, hKn, hsh⟩ := X
  subst hp
  obtain ⟨T', Y', e', st'⟩ := RoadKit.instY Y hx hZ hown w eT F (g := mkF m pc Ls (.ref a :: st)) rfl rfl (hb hby hd)
  exact Go.go st' (k T' ⟨k0, locs, Y', N, e', O, K, hx, hby, hml, hret, hlk, hown, hnm, hZ, hS, hk, hC, hEW, hKn, hsh⟩)
theorem o_initO {idx W : Nat} {a : Addr} (X : Here p l e R s m args below meth c Z bytes maxL ret own nm h0 n0 ws EL kn T h vm0 cells slots) (w1 : (Cond.methodLink own idx Lib.objectInit).before a0 Z = true) (w2 : (Cond.instanceMethod Lib.objectInit).before a0 Z = true) (w3 : (Cond.code Lib.objectInit ⟨#[0xb1]⟩ 1 none).before a0 Z = true) (hsz : Ls.size = maxL) (hf : 1 ≤ R.frames) (hW : (st.map fun v => v.category).sum ≤ W) (hl : W + 12 ≤ R.locals) (hd : decode bytes pc = .ok (.invokespecial idx, 3)) (hp : pc + 3 = pc')
    (k : ∀ T', Here p l e R s m args below meth c Z bytes maxL ret own nm h0 n0 ws EL kn T' h vm0 cells slots → Go p.tables e below P (T'.setTop (mkF m pc' Ls st))) : Go p.tables e below P (T.setTop (mkF m pc Ls (.ref a :: st))) := by
  obtain ⟨k0, locs, Y, N, eT, O, K, hx, hby, hml, hret, hlk, hown, hnm, hZ, hS, hk, hC, hEW, hKn, hsh⟩ := X
  subst hp
  obtain ⟨T', Y', e', st'⟩ := RoadKit.initO Y hx hZ hown w1 w2 w3 eT (g := mkF m pc Ls (.ref a :: st)) rfl (by rw [hml]; exact hsz) rfl (hb hby hd) hf (W := W) (by show 2 * 0 + _ ≤ _; omega) hl
  exact Go.go st' (k T' ⟨k0, locs, Y', N, e', O, K, hx, hby, hml, hret, hlk, hown, hnm, hZ, hS, hk, hC, hEW, hKn, hsh⟩)
theorem o_castNull {index : Nat} (X : Here p l e R s m args below meth c Z bytes maxL ret own nm h0 n0 ws EL kn T h vm0 cells slots) (hd : decode bytes pc = .ok (.checkcast index, 3)) (hp : pc + 3 = pc')
    (k : Go p.tables e below P (T.setTop (mkF m pc' Ls (.null :: st)))) : Go p.tables e below P (T.setTop (mkF m pc Ls (.null :: st))) := by
  obtain ⟨k0, locs, Y, N, eT, O, K, hx, hby, hml, hret, hlk, hown, hnm, hZ, hS, hk, hC, hEW, hKn, hsh⟩ := X
  subst hp
  exact Go.go (Y.checkcastNull hx (g := mkF m pc Ls (.null :: st)) rfl rfl (hb hby hd)) k
theorem oL {a : Addr} {ka : ClassId} {ty : FieldType} {n : Int32} {vs : List Value} {d : Value} (X : Here p l e R s m args below meth c Z bytes maxL ret own nm h0 n0 ws EL kn T h vm0 cells slots) (F : Arv Z h a ka ty n vs d) (hd : decode bytes pc = .ok (.arraylength, 1)) (hp : pc + 1 = pc')
    (k : Go p.tables e below P (T.setTop (mkF m pc' Ls (.int n :: st)))) : Go p.tables e below P (T.setTop (mkF m pc Ls (.ref a :: st))) := by
  obtain ⟨k0, locs, Y, N, eT, O, K, hx, hby, hml, hret, hlk, hown, hnm, hZ, hS, hk, hC, hEW, hKn, hsh⟩ := X
  subst hp
  obtain ⟨cl, A, -, S, q, -⟩ := F
  refine Go.go (Y.arraylength hx (by rw [eT]; exact A.1) (State.isArrayOf_alike hZ.alike A.2.1) (g := mkF m pc Ls (.ref a :: st)) rfl rfl (hb hby hd)) ?_
  rw [len_of S q]
  exact k
theorem oC {a : Addr} {ka : ClassId} {n j : Int32} {vs : List Value} {d v : Value} (X : Here p l e R s m args below meth c Z bytes maxL ret own nm h0 n0 ws EL kn T h vm0 cells slots) (F : Arv Z h a ka .char n vs d) (hj : ¬ j < 0 ∧ j < n) (hv : vs.getD j.toNatClampNeg d = v) (hd : decode bytes pc = .ok (.caload, 1)) (hp : pc + 1 = pc')
    (k : Go p.tables e below P (T.setTop (mkF m pc' Ls (v :: st)))) : Go p.tables e below P (T.setTop (mkF m pc Ls (.int j :: .ref a :: st))) := by
  obtain ⟨k0, locs, Y, N, eT, O, K, hx, hby, hml, hret, hlk, hown, hnm, hZ, hS, hk, hC, hEW, hKn, hsh⟩ := X
  subst hp
  obtain ⟨cl, A, -, S, q, H, -⟩ := F
  have hin := inb_of S hj
  exact Go.go (Y.caload hx (by rw [eT]; exact A.1) (State.isArrayOf_alike hZ.alike A.2.1) A.2.2 hin (H.at hin hv) (g := mkF m pc Ls (.int j :: .ref a :: st)) rfl rfl (hb hby hd)) k
theorem oB {a : Addr} {ka : ClassId} {n j : Int32} {vs : List Value} {d v : Value} (X : Here p l e R s m args below meth c Z bytes maxL ret own nm h0 n0 ws EL kn T h vm0 cells slots) (F : Arv Z h a ka .byte n vs d) (hj : ¬ j < 0 ∧ j < n) (hv : vs.getD j.toNatClampNeg d = v) (hd : decode bytes pc = .ok (.baload, 1)) (hp : pc + 1 = pc')
    (k : Go p.tables e below P (T.setTop (mkF m pc' Ls (v :: st)))) : Go p.tables e below P (T.setTop (mkF m pc Ls (.int j :: .ref a :: st))) := by
  obtain ⟨k0, locs, Y, N, eT, O, K, hx, hby, hml, hret, hlk, hown, hnm, hZ, hS, hk, hC, hEW, hKn, hsh⟩ := X
  subst hp
  obtain ⟨cl, A, -, S, q, H, -⟩ := F
  have hin := inb_of S hj
  exact Go.go (Y.baloadBytes hx (by rw [eT]; exact A.1) (State.isArrayOf_alike hZ.alike A.2.1) A.2.2 hin (H.at hin hv) (g := mkF m pc Ls (.int j :: .ref a :: st)) rfl rfl (hb hby hd)) k
theorem o_aaload {a : Addr} {ka : ClassId} {ty : FieldType} {n j : Int32} {vs : List Value} {d v : Value} (X : Here p l e R s m args below meth c Z bytes maxL ret own nm h0 n0 ws EL kn T h vm0 cells slots) (F : Arv Z h a ka ty n vs d) (hty : ty.isReference = true) (hj : ¬ j < 0 ∧ j < n) (hv : vs.getD j.toNatClampNeg d = v) (hd : decode bytes pc = .ok (.aaload, 1)) (hp : pc + 1 = pc')
    (k : Go p.tables e below P (T.setTop (mkF m pc' Ls (v :: st)))) : Go p.tables e below P (T.setTop (mkF m pc Ls (.int j :: .ref a :: st))) := by
  obtain ⟨k0, locs, Y, N, eT, O, K, hx, hby, hml, hret, hlk, hown, hnm, hZ, hS, hk, hC, hEW, hKn, hsh⟩ := X
  subst hp
  obtain ⟨cl, A, -, S, q, H, -⟩ := F
  have hin := inb_of S hj
  exact Go.go (Y.aaload hx (by rw [eT]; exact A.1) (State.isArrayOf_alike hZ.alike A.2.1) hty A.2.2 hin (H.at hin hv) (g := mkF m pc Ls (.int j :: .ref a :: st)) rfl rfl (hb hby hd)) k
theorem o_new {C : String} {index kk : Nat} (X : Here p l e R s m args below meth c Z bytes maxL ret own nm h0 n0 ws EL kn T h vm0 cells slots) (w : (Cond.classLink own index C).before a0 Z = true) (wi : (Cond.instantiable C kk).before a0 Z = true) (wz : (Cond.initialized C).before a0 Z = true) (hd : decode bytes pc = .ok (.new index, 3)) (hp : pc + 3 = pc') (hc : cells + 1 ≤ R.cells) (hl : slots + kk ≤ R.slots)
    (k : ∀ T' h' b, Here p l e R s m args below meth c Z bytes maxL ret own nm h0 n0 ws EL kn T' h' vm0 (cells + 1) (slots + kk) → b = h.size → b < h'.size → Ext h h' → Exa Z h' b C → (∀ {O nm d : String} {ty : FieldType}, Laid Z a0 C O nm d → parseFieldDescriptor d = some ty → Fld Z h' b O nm d (defaultValue ty)) → Unt h' b → CHr Z EL vm0 h vm0 h' → Safe Z EL vm0 h' b → Go p.tables e below P (T'.setTop (mkF m pc' Ls (.ref b :: st)))) : Go p.tables e below P (T.setTop (mkF m pc Ls st)) := by
  obtain ⟨k0, locs, Y, N, eT, O, K, hx, hby, hml, hret, hlk, hown, hnm, hZ, hS, hk, hC, hEW, hKn, hsh⟩ := X
  subst hp
  obtain ⟨T', h', Y', e', E', A', D', U', st'⟩ := newO Y hx hZ hown w wi wz eT (g := mkF m pc Ls st) rfl (hb hby hd) hc hl
  exact Go.go st' (k T' h' _ ⟨k0, locs, Y', N, e', O.ext E', K.ext E', hx, hby, hml, hret, hlk, hown, hnm, hZ, hS, Nat.le_trans hk E'.1, hC.trans (CHr.ext E' hC.1), hEW, hKn, hsh⟩ rfl A'.lt E' A' D' U' (CHr.ext E' hC.1) (Safe.ext E' hC.1 (Safe.new (Nat.le_refl _))))
theorem o_newP {aty : ArrayType} {n : Int32} {cap : Nat} {ad : String} (X : Here p l e R s m args below meth c Z bytes maxL ret own nm h0 n0 ws EL kn T h vm0 cells slots) (w : (Cond.arrayClass (newarray.typeOf aty)).before a0 Z = true) (hd : decode bytes pc = .ok (.newarray aty, 2)) (hp : pc + 2 = pc') (hn : ¬ n < 0) (hcap : n.toNatClampNeg ≤ cap) (hb' : cap * 8 ≤ 536870912) (hc : cells + 1 ≤ R.cells) (hl : slots + cap ≤ R.slots) (had : "[" ++ (newarray.typeOf aty).toString = ad)
    (k : ∀ T' h' b ka, Here p l e R s m args below meth c Z bytes maxL ret own nm h0 n0 ws EL kn T' h' vm0 (cells + 1) (slots + cap) → b = h.size → b < h'.size → Ext h h' → Arv Z h' b ka (newarray.typeOf aty) n [] (defaultValue (newarray.typeOf aty)) → Exa Z h' b ad → CHr Z EL vm0 h vm0 h' → Safe Z EL vm0 h' b → Go p.tables e below P (T'.setTop (mkF m pc' Ls (.ref b :: st)))) : Go p.tables e below P (T.setTop (mkF m pc Ls (.int n :: st))) := by
  obtain ⟨k0, locs, Y, N, eT, O, K, hx, hby, hml, hret, hlk, hown, hnm, hZ, hS, hk, hC, hEW, hKn, hsh⟩ := X
  subst hp
  obtain ⟨T', h', ka, Y', e', E', A', B', st'⟩ := newPE Y hx hZ w eT (g := mkF m pc Ls (.int n :: st)) rfl (hb hby hd) rfl hn hcap hb' hc hl had
  exact Go.go st' (k T' h' _ ka ⟨k0, locs, Y', N, e', O.ext E', K.ext E', hx, hby, hml, hret, hlk, hown, hnm, hZ, hS, Nat.le_trans hk E'.1, hC.trans (CHr.ext E' hC.1), hEW, hKn, hsh⟩ rfl A'.lt E' (Arv.new A' hn) B' (CHr.ext E' hC.1) (Safe.ext E' hC.1 (Safe.new (Nat.le_refl _))))
theorem oP {R0 O n d C : String} {index kk : Nat} {ty : FieldType} {a : Addr} {v v' old : Value} (X : Here p l e R s m args below meth c Z bytes maxL ret own nm h0 n0 ws EL kn T h vm0 cells slots) (w : (Cond.fieldLink own index R0 n d).before a0 Z = true) (via : Via Z R0 O n d) (F : Fld Z h a O n d old) (E : Exa Z h a C) (L : (Cond.lays C O n d).before a0 Z = true ∨ ((Cond.laysFinal C O n d).before a0 Z = true ∧ own = O ∧ nm = "<init>")) (wi : (Cond.instantiable C kk).before a0 Z = true) (hty : parseFieldDescriptor d = some ty) (hv : narrow ty v = v') (hf : fits ty v' = true) (hd : decode bytes pc = .ok (.putfield index, 3)) (hp : pc + 3 = pc') (hn0 : n0 ≤ a) (hws : a ∈ ws ∨ h0.size ≤ a) (hsf : Safe Z EL vm0 h a)
    (k : ∀ T' h', Here p l e R s m args below meth c Z bytes maxL ret own nm h0 n0 ws EL kn T' h' vm0 cells slots → Wr h h' a (RoadKit.slotOf Z O n d) v' → CHr Z EL vm0 h vm0 h' → Go p.tables e below P (T'.setTop (mkF m pc' Ls st))) : Go p.tables e below P (T.setTop (mkF m pc Ls (v :: .ref a :: st))) := by
  obtain ⟨k0, locs, Y, N, eT, O, K, hx, hby, hml, hret, hlk, hown, hnm, hZ, hS, hk, hC, hEW, hKn, hsh⟩ := X
  subst hp
  obtain ⟨T', h', Y', e', W', st'⟩ := putFN Y hx hZ hown w via eT F E (L.imp id fun q => ⟨q.1, q.2.1, hnm.trans q.2.2⟩) wi hty hv hf (g := mkF m pc Ls (v :: .ref a :: st)) rfl rfl (hb hby hd)
  exact Go.go st' (k T' h' ⟨k0, _, Y', Fr.snoc Y' N hn0, e', O.wr W' hn0, K.wr W' hws, hx, hby, hml, hret, hlk, hown, hnm, hZ, hS, by rw [W'.size]; exact hk, hC.trans (CHr.wr W' hsf hC.1), hEW, hKn, hsh⟩ W' (CHr.wr W' hsf hC.1))
theorem o_stC {a : Addr} {ka : ClassId} {n j : Int32} {x y : Int32} {i : Nat} {vs : List Value} {d : Value} (X : Here p l e R s m args below meth c Z bytes maxL ret own nm h0 n0 ws EL kn T h vm0 cells slots) (F : Arv Z h a ka .char n vs d) (hj : ¬ j < 0 ∧ j < n) (hi : j.toNatClampNeg = i) (hil : i < vs.length) (hv : nar .char x = y) (hd : decode bytes pc = .ok (.castore, 1)) (hp : pc + 1 = pc') (hn0 : n0 ≤ a) (hws : a ∈ ws ∨ h0.size ≤ a) (hsf : Safe Z EL vm0 h a)
    (k : ∀ T' h', Here p l e R s m args below meth c Z bytes maxL ret own nm h0 n0 ws EL kn T' h' vm0 cells slots → (∃ sl w, Wr h h' a sl w) → CHr Z EL vm0 h vm0 h' → Arv Z h' a ka .char n (vs.set i (.int y)) d → Go p.tables e below P (T'.setTop (mkF m pc' Ls st))) : Go p.tables e below P (T.setTop (mkF m pc Ls (.int x :: .int j :: .ref a :: st))) := by
  obtain ⟨k0, locs, Y, N, eT, O, K, hx, hby, hml, hret, hlk, hown, hnm, hZ, hS, hk, hC, hEW, hKn, hsh⟩ := X
  subst hp hv
  obtain ⟨cl, A, q1, S, q, H, G⟩ := F
  obtain ⟨T', h', Y', e', W', st'⟩ := RoadKit.stC Y hx hZ eT A (inb_of S hj) (g := mkF m pc Ls (.int x :: .int j :: .ref a :: st)) rfl rfl (hb hby hd)
  exact Go.go st' (k T' h' ⟨k0, _, Y', Fr.snoc Y' N hn0, e', O.wr W' hn0, K.wr W' hws, hx, hby, hml, hret, hlk, hown, hnm, hZ, hS, by rw [W'.size]; exact hk, hC.trans (CHr.wr W' hsf hC.1), hEW, hKn, hsh⟩ ⟨_, _, W'⟩ (CHr.wr W' hsf hC.1) (Arv.set A q1 S q H G (fits_nar_char _) W' i hi hil))
theorem o_stB {a : Addr} {ka : ClassId} {n j : Int32} {x y : Int32} {i : Nat} {vs : List Value} {d : Value} (X : Here p l e R s m args below meth c Z bytes maxL ret own nm h0 n0 ws EL kn T h vm0 cells slots) (F : Arv Z h a ka .byte n vs d) (hj : ¬ j < 0 ∧ j < n) (hi : j.toNatClampNeg = i) (hil : i < vs.length) (hv : nar .byte x = y) (hd : decode bytes pc = .ok (.bastore, 1)) (hp : pc + 1 = pc') (hn0 : n0 ≤ a) (hws : a ∈ ws ∨ h0.size ≤ a) (hsf : Safe Z EL vm0 h a)
    (k : ∀ T' h', Here p l e R s m args below meth c Z bytes maxL ret own nm h0 n0 ws EL kn T' h' vm0 cells slots → (∃ sl w, Wr h h' a sl w) → CHr Z EL vm0 h vm0 h' → Arv Z h' a ka .byte n (vs.set i (.int y)) d → Go p.tables e below P (T'.setTop (mkF m pc' Ls st))) : Go p.tables e below P (T.setTop (mkF m pc Ls (.int x :: .int j :: .ref a :: st))) := by
  obtain ⟨k0, locs, Y, N, eT, O, K, hx, hby, hml, hret, hlk, hown, hnm, hZ, hS, hk, hC, hEW, hKn, hsh⟩ := X
  subst hp hv
  obtain ⟨cl, A, q1, S, q, H, G⟩ := F
  obtain ⟨T', h', Y', e', W', st'⟩ := RoadKit.stB Y hx hZ eT A (inb_of S hj) (g := mkF m pc Ls (.int x :: .int j :: .ref a :: st)) rfl rfl (hb hby hd)
  exact Go.go st' (k T' h' ⟨k0, _, Y', Fr.snoc Y' N hn0, e', O.wr W' hn0, K.wr W' hws, hx, hby, hml, hret, hlk, hown, hnm, hZ, hS, by rw [W'.size]; exact hk, hC.trans (CHr.wr W' hsf hC.1), hEW, hKn, hsh⟩ ⟨_, _, W'⟩ (CHr.wr W' hsf hC.1) (Arv.set A q1 S q H G (fits_nar_byte _) W' i hi hil))
theorem o_clone {ad : String} {index W cap : Nat} {a : Addr} {ka : ClassId} {ty : FieldType} {z : Int32} {vs : List Value} {dv : Value} (X : Here p l e R s m args below meth c Z bytes maxL ret own nm h0 n0 ws EL kn T h vm0 cells slots) (w1 : (Cond.methodLink own index ⟨ad, "clone", "()Ljava/lang/Object;"⟩).before a0 Z = true) (w2 : (Cond.sameMethod ad "java/lang/Object" "clone" "()Ljava/lang/Object;").before a0 Z = true) (w3 : (Cond.native ⟨"java/lang/Object", "clone", "()Ljava/lang/Object;"⟩).before a0 Z = true)
    (w4 : (Cond.instanceMethod ⟨"java/lang/Object", "clone", "()Ljava/lang/Object;"⟩).before a0 Z = true) (w5 : (Cond.selects ad ⟨ad, "clone", "()Ljava/lang/Object;"⟩ ⟨"java/lang/Object", "clone", "()Ljava/lang/Object;"⟩).before a0 Z = true) (w6 : (Cond.castable ad "java/lang/Cloneable").before a0 Z = true) (F : Arv Z h a ka ty z vs dv) (E : Exa Z h a ad) (hd : decode bytes pc = .ok (.invokevirtual index, 3)) (hp : pc + 3 = pc') (hsz : Ls.size = maxL) (hf : 1 ≤ R.frames) (hW : (rest.map fun v => v.category).sum ≤ W) (hl : W + 14 ≤ R.locals) (hcap : z.toNatClampNeg ≤ cap) (hc : cells + 1 ≤ R.cells) (hsl : slots + cap ≤ R.slots)
    (k : ∀ T' h' b, Here p l e R s m args below meth c Z bytes maxL ret own nm h0 n0 ws EL kn T' h' vm0 (cells + 1) (slots + cap) → b = h.size → b < h'.size → Ext h h' → Arv Z h' b ka ty z vs dv → Exa Z h' b ad → CHr Z EL vm0 h vm0 h' → Safe Z EL vm0 h' b → Go p.tables e below P (T'.setTop (mkF m pc' Ls (.ref b :: rest)))) : Go p.tables e below P (T.setTop (mkF m pc Ls (.ref a :: rest))) := by
  obtain ⟨k0, locs, Y, N, eT, O, K, hx, hby, hml, hret, hlk, hown, hnm, hZ, hS, hk, hC, hEW, hKn, hsh⟩ := X
  subst hp
  obtain ⟨cl, A, q1, S, q3, H, G⟩ := F
  have FC : FitC Z cl := fitC_of A fun i hi v hv => by rw [H i hi] at hv; cases hv; exact G i hi
  obtain ⟨T', h', Y', e', E', A', B', st'⟩ := cloneA Y hx hZ hown w1 w2 w3 w4 w5 w6 eT A E FC (g := mkF m pc Ls (.ref a :: rest)) rfl (by rw [hml]; exact hsz) rfl (hb hby hd) hf (W := W) (by show 2 * 0 + _ ≤ _; omega) hl (by rw [S]; exact hcap) hc hsl
  exact Go.go st' (k T' h' _ ⟨k0, locs, Y', N, e', O.ext E', K.ext E', hx, hby, hml, hret, hlk, hown, hnm, hZ, hS, Nat.le_trans hk E'.1, hC.trans (CHr.ext E' hC.1), hEW, hKn, hsh⟩ rfl B'.lt E' ⟨cloneOf cl, A', q1, S, q3, H, G⟩ B' (CHr.ext E' hC.1) (Safe.ext E' hC.1 (Safe.new (Nat.le_refl _))))
theorem o_ldcI {index : Nat} {v : Int32} (X : Here p l e R s m args below meth c Z bytes maxL ret own nm h0 n0 ws EL kn T h vm0 cells slots) (w : (Cond.constant own index v).before a0 Z = true) (hd : decode bytes pc = .ok (.ldc index, 2)) (hp : pc + 2 = pc')
    (k : Go p.tables e below P (T.setTop (mkF m pc' Ls (.int v :: st)))) : Go p.tables e below P (T.setTop (mkF m pc Ls st)) := by
  obtain ⟨k0, locs, Y, N, eT, O, K, hx, hby, hml, hret, hlk, hown, hnm, hZ, hS, hk, hC, hEW, hKn, hsh⟩ := X
  subst hp
  exact Go.go (Y.ldcInt hx hown (mvT hZ w) (g := mkF m pc Ls st) rfl (hb hby hd)) k
theorem oz  {Po : Option Value → Heap → Vm → Prop} (X : Here p l e R s m args below meth c Z bytes maxL ret own nm h0 n0 ws EL kn T h vm0 cells slots) (hd : decode bytes pc = .ok (.return_, 1)) (hr0 : ret = none) (hc : cells ≤ R.cells) (hs : slots ≤ R.slots) (hQ : ∀ vm', CHr Z EL vm0 h vm' h → Po (none) h vm') : Go p.tables e below (PO s R h0 n0 ws Z EL Po) (T.setTop (mkF m pc Ls [])) := by
  obtain ⟨k0, locs, Y, N, eT, O, K, hx, hby, hml, hret, hlk, hown, hnm, hZ, hS, hk, hC, hEW, hKn, hsh⟩ := X
  obtain ⟨fs, hr, hrun, hended, hW, hsame⟩ := Y.leave (v := none) (fun _ => rfl) hlk
  have hE := hS.ended (U := T.setFrames fs) hW (by show k0 ≤ T.heap.size; rw [eT]; exact hk) (hsame.mono hc hs)
  obtain ⟨a1, hew⟩ := hEW
  have hC1 : CHr Z EL vm0 h T.vm h := CHv.at Y hZ hew hC.1
  have hC2 : CHr Z EL s.vm s.heap T.vm T.heap := by
    rw [hsh, eT]
    exact hC.trans hC1
  refine ⟨_, _, ?_, hrun, hended, _, _, rfl, ⟨N, ?_, ?_⟩, hC2, ⟨_, rfl⟩, hE.1, hE.2.1, hE.2.2⟩
  · exact Y.returnOut hx (hret.trans hr0) (hb hby hd) hr
  · show Keep h0 T.heap ws
    rw [eT]; exact K
  · show Po _ T.heap T.vm
    rw [eT]; exact hQ _ hC1
theorem o_iret {z : Int32} {Po : Option Value → Heap → Vm → Prop} (X : Here p l e R s m args below meth c Z bytes maxL ret own nm h0 n0 ws EL kn T h vm0 cells slots) (hd : decode bytes pc = .ok (.ireturn, 1)) (hr0 : ret = some .int) (hc : cells ≤ R.cells) (hs : slots ≤ R.slots) (hQ : ∀ vm', CHr Z EL vm0 h vm' h → Po (some (.int z)) h vm') : Go p.tables e below (PO s R h0 n0 ws Z EL Po) (T.setTop (mkF m pc Ls (.int z :: rest))) := by
  obtain ⟨k0, locs, Y, N, eT, O, K, hx, hby, hml, hret, hlk, hown, hnm, hZ, hS, hk, hC, hEW, hKn, hsh⟩ := X
  obtain ⟨fs, hr, hrun, hended, hW, hsame⟩ := Y.leave (v := some (.int z)) (fun h => by rw [hret, hr0] at h; cases h) hlk
  have hE := hS.ended (U := T.setFrames fs) hW (by show k0 ≤ T.heap.size; rw [eT]; exact hk) (hsame.mono hc hs)
  obtain ⟨a1, hew⟩ := hEW
  have hC1 : CHr Z EL vm0 h T.vm h := CHv.at Y hZ hew hC.1
  have hC2 : CHr Z EL s.vm s.heap T.vm T.heap := by
    rw [hsh, eT]
    exact hC.trans hC1
  refine ⟨_, _, ?_, hrun, hended, _, _, rfl, ⟨N, ?_, ?_⟩, hC2, ⟨_, rfl⟩, hE.1, hE.2.1, hE.2.2⟩
  · exact retOut Y hx (hret.trans hr0) rfl (Or.inl ⟨rfl, Or.inl rfl, _, rfl⟩) (hb hby hd) hr
  · show Keep h0 T.heap ws
    rw [eT]; exact K
  · show Po _ T.heap T.vm
    rw [eT]; exact hQ _ hC1
theorem o_nret {z y : Int32} {t : FieldType} {Po : Option Value → Heap → Vm → Prop} (X : Here p l e R s m args below meth c Z bytes maxL ret own nm h0 n0 ws EL kn T h vm0 cells slots) (hd : decode bytes pc = .ok (.ireturn, 1)) (hr0 : ret = some t) (hv : nar t z = y) (ht : t = .boolean ∨ t = .byte ∨ t = .char ∨ t = .short) (hc : cells ≤ R.cells) (hs : slots ≤ R.slots) (hQ : ∀ vm', CHr Z EL vm0 h vm' h → Po (some (.int y)) h vm') : Go p.tables e below (PO s R h0 n0 ws Z EL Po) (T.setTop (mkF m pc Ls (.int z :: rest))) := by
  obtain ⟨k0, locs, Y, N, eT, O, K, hx, hby, hml, hret, hlk, hown, hnm, hZ, hS, hk, hC, hEW, hKn, hsh⟩ := X
  obtain ⟨fs, hr, hrun, hended, hW, hsame⟩ := Y.leave (v := some (.int y)) (fun h => by rw [hret, hr0] at h; cases h) hlk
  have hE := hS.ended (U := T.setFrames fs) hW (by show k0 ≤ T.heap.size; rw [eT]; exact hk) (hsame.mono hc hs)
  obtain ⟨a1, hew⟩ := hEW
  have hC1 : CHr Z EL vm0 h T.vm h := CHv.at Y hZ hew hC.1
  have hC2 : CHr Z EL s.vm s.heap T.vm T.heap := by
    rw [hsh, eT]
    exact hC.trans hC1
  refine ⟨_, _, ?_, hrun, hended, _, _, rfl, ⟨N, ?_, ?_⟩, hC2, ⟨_, rfl⟩, hE.1, hE.2.1, hE.2.2⟩
  · subst hv; exact retN Y hx (hret.trans hr0) ht (hb hby hd) hr
  · show Keep h0 T.heap ws
    rw [eT]; exact K
  · show Po _ T.heap T.vm
    rw [eT]; exact hQ _ hC1
theorem oR {w : Value} {t : FieldType} {Po : Option Value → Heap → Vm → Prop} (X : Here p l e R s m args below meth c Z bytes maxL ret own nm h0 n0 ws EL kn T h vm0 cells slots) (hd : decode bytes pc = .ok (.areturn, 1)) (hr0 : ret = some t) (ht : t.isReference = true) (hw : w.isRef = true) (hc : cells ≤ R.cells) (hs : slots ≤ R.slots) (hQ : ∀ vm', CHr Z EL vm0 h vm' h → Po (some w) h vm') : Go p.tables e below (PO s R h0 n0 ws Z EL Po) (T.setTop (mkF m pc Ls (w :: rest))) := by
  obtain ⟨k0, locs, Y, N, eT, O, K, hx, hby, hml, hret, hlk, hown, hnm, hZ, hS, hk, hC, hEW, hKn, hsh⟩ := X
  obtain ⟨fs, hr, hrun, hended, hW, hsame⟩ := Y.leave (v := some w) (fun h => by rw [hret, hr0] at h; cases h) hlk
  have hE := hS.ended (U := T.setFrames fs) hW (by show k0 ≤ T.heap.size; rw [eT]; exact hk) (hsame.mono hc hs)
  obtain ⟨a1, hew⟩ := hEW
  have hC1 : CHr Z EL vm0 h T.vm h := CHv.at Y hZ hew hC.1
  have hC2 : CHr Z EL s.vm s.heap T.vm T.heap := by
    rw [hsh, eT]
    exact hC.trans hC1
  refine ⟨_, _, ?_, hrun, hended, _, _, rfl, ⟨N, ?_, ?_⟩, hC2, ⟨_, rfl⟩, hE.1, hE.2.1, hE.2.2⟩
  · exact retOut Y hx (hret.trans hr0) (by rcases ref_cases hw with rfl | ⟨a, rfl⟩ <;> cases t <;> first | rfl | cases ht) (Or.inr (Or.inr (Or.inr (Or.inr ⟨rfl, ht, hw⟩)))) (hb hby hd) hr
  · show Keep h0 T.heap ws
    rw [eT]; exact K
  · show Po _ T.heap T.vm
    rw [eT]; exact hQ _ hC1
theorem o_static {index : Nat} {y : MethodName} {bytes' : ByteArray} {maxL' : Nat} {ret' : Option FieldType} {W kc ks : Nat} {Q : Option Value → Heap → Vm → List Loc → Prop} {ws' : List Addr} {argsL : List Value} (X : Here p l e R s m args below meth c Z bytes maxL ret own nm h0 n0 ws EL kn T h vm0 cells slots) (w1 : (Cond.methodLink own index y).before a0 Z = true) (w2 : (Cond.static y).before a0 Z = true) (w3 : (Cond.initialized y.cls).before a0 Z = true) (w4 : (Cond.code y bytes' maxL' ret').before a0 Z = true) (hy : y.cls ≠ "java/lang/invoke/MethodHandle" ∧ y.cls ≠ "java/lang/invoke/VarHandle") (hlen : ∀ sig, parseMethodDescriptor y.desc = some sig → argsL.length = sig.parameters.length) (hK : BackS l R p e below (s.setVm vm0) args y 3 W (fun A a => a = argsL.toArray ∧ A.U.heap = h ∧ A.cells + kc ≤ R.cells ∧ A.slots + ks ≤ R.slots) (fun A _ v B => ∃ L, Q v B.U.heap B.U.vm L ∧ B.locs = A.locs ++ L ∧ B.cells = A.cells + kc ∧ B.slots = A.slots + ks ∧ CHr Z EL vm0 h B.U.vm B.U.heap)) (hd : decode bytes pc = .ok (.invokestatic index, 3)) (hp : pc + 3 = pc') (hsz : Ls.size = maxL) (hstk : st = argsL.reverse ++ rest) (hW : (rest.map fun v => v.category).sum ≤ W) (hc : cells + kc ≤ R.cells) (hs : slots + ks ≤ R.slots) (hQ : ∀ v h' vm' L, Q v h' vm' L → Fr n0 L ∧ Keep h h' ws') (hws : ∀ x ∈ ws', n0 ≤ x ∧ (x ∈ ws ∨ h0.size ≤ x))
    (k : ∀ v T' h' L vm', Here p l e R s m args below meth c Z bytes maxL ret own nm h0 n0 ws EL kn T' h' vm' (cells + kc) (slots + ks) → Q v h' vm' L → Keep h h' ws' → CHr Z EL vm0 h vm' h' → Go p.tables e below P (T'.setTop (mkF m pc' Ls (v.toList ++ rest)))) : Go p.tables e below P (T.setTop (mkF m pc Ls st)) := by
  obtain ⟨k0, locs, Y, N, eT, O, K, hx, hby, hml, hret, hlk, hown, hnm, hZ, hS, hk, hC, hEW, hKn, hsh⟩ := X
  subst hp hstk
  obtain ⟨v, vm₁, ⟨T', L', k', n'⟩, -, X', hS', hg', ⟨L, hq, l', y', z', hC'⟩, st'⟩ := RoadKit.callSS Y hx hown (mvT hZ w1) (mvT hZ w2) (mvT hZ w3) (mvT hZ w4) hy hK (g := mkF m pc Ls (argsL.reverse ++ rest)) rfl (by rw [hml]; exact hsz) (argsL := argsL) (rest := rest) hlen rfl (by show 2 * 0 + _ ≤ _; omega) (hb hby hd) (fun _ _ => ⟨rfl, eT, hc, hs⟩)
  dsimp only [Pt.U, Pt.locs, Pt.cells, Pt.slots] at X' hS' hg' l' y' z' st' hq hC'
  subst l' y' z'
  obtain ⟨f1, f2⟩ := hQ _ _ _ _ hq
  have hZ' : Z.Warmed39 T'.vm := State.Warmed39.trans (t := s.setVm vm0) hZ hS'.1
  have hown' : T'.vm.findClass own = some m.cls := by
    have q := hS'.1.alike.findClass (name := own)
    exact (q _).trans hown
  exact Go.go (fun t q => st'.trans q) (k v T' _ L T'.vm ⟨T'.heap.size, _, X', N.app f1, rfl, O.keep f2 (fun x hx => (hws x hx).1), K.trans f2 (fun x hx => (hws x hx).2), hx, hby, hml, hret, hlk, hown', hnm, hZ', hS.trans hS' (Nat.le_trans hk (by rw [← eT]; exact hg')), Nat.le_refl _, hC.trans hC', hEW, KnP.alike hKn hS'.1.alike, hsh⟩ hq f2 hC')
theorem o_special {index : Nat} {y : MethodName} {bytes' : ByteArray} {maxL' : Nat} {b : Addr} {W kc ks : Nat} {Q : Option Value → Heap → Vm → List Loc → Prop} {ws' : List Addr} {argsL : List Value} (X : Here p l e R s m args below meth c Z bytes maxL ret own nm h0 n0 ws EL kn T h vm0 cells slots) (hy1 : y.name = "<init>") (w1 : (Cond.methodLink own index y).before a0 Z = true) (w2 : (Cond.instanceMethod y).before a0 Z = true) (w4 : (Cond.code y bytes' maxL' none).before a0 Z = true) (hy : y.cls ≠ "java/lang/invoke/MethodHandle" ∧ y.cls ≠ "java/lang/invoke/VarHandle") (hlen : ∀ sig, parseMethodDescriptor y.desc = some sig → argsL.length = sig.parameters.length) (hK : BackS l R p e below (s.setVm vm0) args y 3 W (fun A a => a = (.ref b :: argsL).toArray ∧ A.U.heap = h ∧ A.cells + kc ≤ R.cells ∧ A.slots + ks ≤ R.slots) (fun A _ v B => ∃ L, Q v B.U.heap B.U.vm L ∧ B.locs = A.locs ++ L ∧ B.cells = A.cells + kc ∧ B.slots = A.slots + ks ∧ CHr Z EL vm0 h B.U.vm B.U.heap)) (hd : decode bytes pc = .ok (.invokespecial index, 3)) (hp : pc + 3 = pc') (hsz : Ls.size = maxL) (hstk : st = argsL.reverse ++ .ref b :: rest) (hW : (rest.map fun v => v.category).sum ≤ W) (hc : cells + kc ≤ R.cells) (hs : slots + ks ≤ R.slots) (hQ : ∀ v h' vm' L, Q v h' vm' L → Fr n0 L ∧ Keep h h' ws') (hws : ∀ x ∈ ws', n0 ≤ x ∧ (x ∈ ws ∨ h0.size ≤ x))
    (k : ∀ v T' h' L vm', Here p l e R s m args below meth c Z bytes maxL ret own nm h0 n0 ws EL kn T' h' vm' (cells + kc) (slots + ks) → Q v h' vm' L → Keep h h' ws' → CHr Z EL vm0 h vm' h' → Go p.tables e below P (T'.setTop (mkF m pc' Ls (v.toList ++ rest)))) : Go p.tables e below P (T.setTop (mkF m pc Ls st)) := by
  obtain ⟨k0, locs, Y, N, eT, O, K, hx, hby, hml, hret, hlk, hown, hnm, hZ, hS, hk, hC, hEW, hKn, hsh⟩ := X
  subst hp hstk
  obtain ⟨v, vm₁, ⟨T', L', k', n'⟩, -, X', hS', hg', ⟨L, hq, l', y', z', hC'⟩, st'⟩ := Y.specialBackS hx hy1 hown (mvT hZ w1) (mvT hZ w2) (mvT hZ w4) hy hK (g := mkF m pc Ls (argsL.reverse ++ .ref b :: rest)) rfl (by rw [hml]; exact hsz) (Steps.refl _) (a := b) (argsL := argsL) (rest := rest) hlen rfl (by show 2 * 0 + _ ≤ _; omega) (hb hby hd) (fun _ _ => ⟨rfl, eT, hc, hs⟩)
  dsimp only [Pt.U, Pt.locs, Pt.cells, Pt.slots] at X' hS' hg' l' y' z' st' hq hC'
  subst l' y' z'
  obtain ⟨f1, f2⟩ := hQ _ _ _ _ hq
  have hZ' : Z.Warmed39 T'.vm := State.Warmed39.trans (t := s.setVm vm0) hZ hS'.1
  have hown' : T'.vm.findClass own = some m.cls := by
    have q := hS'.1.alike.findClass (name := own)
    exact (q _).trans hown
  exact Go.go (fun t q => st'.trans q) (k v T' _ L T'.vm ⟨T'.heap.size, _, X', N.app f1, rfl, O.keep f2 (fun x hx => (hws x hx).1), K.trans f2 (fun x hx => (hws x hx).2), hx, hby, hml, hret, hlk, hown', hnm, hZ', hS.trans hS' (Nat.le_trans hk (by rw [← eT]; exact hg')), Nat.le_refl _, hC.trans hC', hEW, KnP.alike hKn hS'.1.alike, hsh⟩ hq f2 hC')
theorem o_virtual {index : Nat} {C : String} {y z : MethodName} {b : Addr} {W kc ks : Nat} {Q : Option Value → Heap → Vm → List Loc → Prop} {ws' : List Addr} {argsL : List Value} (X : Here p l e R s m args below meth c Z bytes maxL ret own nm h0 n0 ws EL kn T h vm0 cells slots) (E : Exa Z h b C) (w1 : (Cond.methodLink own index y).before a0 Z = true) (w2 : (Cond.declares y).before a0 Z = true) (w3 : (Cond.selects C y z).before a0 Z = true) (w4 : (Cond.instanceMethod z).before a0 Z = true) (nf : ∀ s' : State, Z.Warmed39 s'.vm → NotFace s' y) (hy : y.cls ≠ "java/lang/invoke/MethodHandle" ∧ y.cls ≠ "java/lang/invoke/VarHandle") (hlen : ∀ sig, parseMethodDescriptor y.desc = some sig → argsL.length = sig.parameters.length) (hK : BackS l R p e below (s.setVm vm0) args z 3 W (fun A a => a = (.ref b :: argsL).toArray ∧ A.U.heap = h ∧ A.cells + kc ≤ R.cells ∧ A.slots + ks ≤ R.slots) (fun A _ v B => ∃ L, Q v B.U.heap B.U.vm L ∧ B.locs = A.locs ++ L ∧ B.cells = A.cells + kc ∧ B.slots = A.slots + ks ∧ CHr Z EL vm0 h B.U.vm B.U.heap)) (hd : decode bytes pc = .ok (.invokevirtual index, 3)) (hp : pc + 3 = pc') (hsz : Ls.size = maxL) (hstk : st = argsL.reverse ++ .ref b :: rest) (hW : (rest.map fun v => v.category).sum ≤ W) (hc : cells + kc ≤ R.cells) (hs : slots + ks ≤ R.slots) (hQ : ∀ v h' vm' L, Q v h' vm' L → Fr n0 L ∧ Keep h h' ws') (hws : ∀ x ∈ ws', n0 ≤ x ∧ (x ∈ ws ∨ h0.size ≤ x))
    (k : ∀ v T' h' L vm', Here p l e R s m args below meth c Z bytes maxL ret own nm h0 n0 ws EL kn T' h' vm' (cells + kc) (slots + ks) → Q v h' vm' L → Keep h h' ws' → CHr Z EL vm0 h vm' h' → Go p.tables e below P (T'.setTop (mkF m pc' Ls (v.toList ++ rest)))) : Go p.tables e below P (T.setTop (mkF m pc Ls st)) := by
  obtain ⟨k0, locs, Y, N, eT, O, K, hx, hby, hml, hret, hlk, hown, hnm, hZ, hS, hk, hC, hEW, hKn, hsh⟩ := X
  obtain ⟨cq, kq, qa, qb, qc⟩ := isOf (s := s.setVm vm0) hZ eT E
  subst hp hstk
  obtain ⟨v, vm₁, ⟨T', L', k', n'⟩, -, X', hS', hg', ⟨L, hq, l', y', z', hC'⟩, st'⟩ := (Y.virtualBackS hx (y := y) (z := z) hown (mvT hZ w1) (mvT hZ w2) (nf _ hZ) (mvT hZ w3) (mvT hZ w4) hy hK qa qc (g := mkF m pc Ls (argsL.reverse ++ .ref b :: rest)) rfl (by rw [hml]; exact hsz) (Steps.refl _) (argsL := argsL) (rest := rest) hlen rfl (by show 2 * 0 + _ ≤ _; omega) (hb hby hd) (fun _ _ => ⟨rfl, eT, hc, hs⟩))
  dsimp only [Pt.U, Pt.locs, Pt.cells, Pt.slots] at X' hS' hg' l' y' z' st' hq hC'
  subst l' y' z'
  obtain ⟨f1, f2⟩ := hQ _ _ _ _ hq
  have hZ' : Z.Warmed39 T'.vm := State.Warmed39.trans (t := s.setVm vm0) hZ hS'.1
  have hown' : T'.vm.findClass own = some m.cls := by
    have q := hS'.1.alike.findClass (name := own)
    exact (q _).trans hown
  exact Go.go (fun t q => st'.trans q) (k v T' _ L T'.vm ⟨T'.heap.size, _, X', N.app f1, rfl, O.keep f2 (fun x hx => (hws x hx).1), K.trans f2 (fun x hx => (hws x hx).2), hx, hby, hml, hret, hlk, hown', hnm, hZ', hS.trans hS' (Nat.le_trans hk (by rw [← eT]; exact hg')), Nat.le_refl _, hC.trans hC', hEW, KnP.alike hKn hS'.1.alike, hsh⟩ hq f2 hC')
theorem o_ldcC {index : Nat} {text : String} {n : Nat} {vs : List Value} {z : Int32} (X : Here p l e R s m args below meth c Z bytes maxL ret own nm h0 n0 ws EL kn T h vm0 cells slots) (w : (Cond.stringLink own index text).before a0 Z = true) (wS : ∀ a ∈ Bundle.stringAtoms, a.before a0 Z = true) (hmem : (own, index) ∈ EL) (ht : (∀ c ∈ text.toList, c.toNat < 256) ∧ text.toList.map (fun c => Value.int (Jvm.Lit.byteI c.toNat.toUInt16)) = vs) (hz : ¬ z < 0) (hlz : z.toNatClampNeg = vs.length) (hd : decode bytes pc = .ok (.ldc index, 2)) (hp : pc + 2 = pc') (hn : 4 * text.toList.length ≤ n) (hbig : n ≤ 536870912) (hc : cells + 2 ≤ R.cells) (hl : slots + (n + 4) ≤ R.slots)
    (k : ∀ a b kb T' h' vm', Here p l e R s m args below meth c Z bytes maxL ret own nm h0 n0 ws EL kn T' h' vm' (cells + 2) (slots + (n + 4)) → Ext h h' → CHr Z EL vm0 h vm' h' → Exa Z h' a "java/lang/String" → Fld Z h' a "java/lang/String" "coder" "B" (.int 0) → Fld Z h' a "java/lang/String" "value" "[B" (.ref b) → Arv Z h' b kb .byte z vs (.int 0) → (∀ x, Safe Z EL vm' h' x → x ≠ a ∧ x ≠ b) → Go p.tables e below P (T'.setTop (mkF m pc' Ls (.ref a :: st)))) : Go p.tables e below P (T.setTop (mkF m pc Ls st)) := by
  obtain ⟨k0, locs, Y, N, eT, O, K, hx, hby, hml, hret, hlk, hown, hnm, hZ, hS, hk, hC, ⟨a1, hEW⟩, hKn, hsh⟩ := X
  subst hp
  obtain ⟨a, T', h', k1, b, kb, Y', e', E', hS', hk', hZ', hown', q1, q2, q3, q4, -, -, hC', -, q5, st'⟩ := ldcCH Y hx hZ hown w wS eT hS hk hEW hmem hC.1 ht hz hlz (g := mkF m pc Ls st) rfl (hb hby hd) hn hbig hc hl
  have hal : vm0.Alike T'.vm := hZ.alike.symm.trans hZ'.alike
  exact Go.go st' (k a b kb T' h' T'.vm ⟨k1, locs, Y', N, e', O.ext E', K.ext E', hx, hby, hml, hret, hlk, hown', hnm, hZ', hS', hk', hC.trans hC', ⟨a1, hEW⟩, KnP.alike hKn hal, hsh⟩ E' hC' q1 q2 q3 q4 q5)
theorem back_met {y : MethodName} {bytes' : ByteArray} {maxL' : Nat} {ret' : Option FieldType} {rm : Room} {len W : Nat} {as' : Array Value} {ws' sf' : List Addr} {Po : Option Value → Heap → Vm → Prop} (hM : Met l y bytes' maxL' ret' [] rm Z as' h n0 ws' EL kn sf' Po) (X : Here p l e R s m args below meth c Z bytes maxL ret own nm h0 n0 ws EL kn T h vm0 cells slots) (wc : (Cond.code y bytes' maxL' ret').before a0 Z = true) (wz : (Cond.initialized y.cls).before a0 Z = true) (hf : rm.frames + 1 ≤ R.frames) (hl : W + (maxL' + 11) + rm.locals ≤ R.locals) (hsf : ∀ x ∈ sf', x < h.size ∧ Safe Z EL vm0 h x) :
    BackS l R p e below (s.setVm vm0) args y len W (fun A a => a = as' ∧ A.U.heap = h ∧ A.cells + rm.cells ≤ R.cells ∧ A.slots + rm.slots ≤ R.slots) (fun A _ v B => ∃ L, QQ h n0 ws' Po v B.U.heap B.U.vm L ∧ B.locs = A.locs ++ L ∧ B.cells = A.cells + rm.cells ∧ B.slots = A.slots + rm.slots ∧ CHr Z EL vm0 h B.U.vm B.U.heap) := by
  obtain ⟨k0, locs, Y, N, eT, O, K, hx, hby, hml, hret, hlk, hown, hnm, hZ, hS, hk, hC, ⟨a1, hEW⟩, hKn, hsh⟩ := X
  refine BackS.of_freeWG (s := s.setVm vm0) (bytes := bytes') (maxL := maxL') (ret := ret') (E := fun _ first o t L k n => k = rm.cells ∧ n = rm.slots ∧ (∃ v, o = .returned v ∧ QQ h n0 ws' Po v t.heap t.vm L) ∧ CHr Z EL first.vm first.heap t.vm t.heap) hM hf hl ?_ ?_ ?_ ?_ ?_
  · intro m meth c A a Y hp
    have hU : Z.Warmed39 A.U.vm := wtrans (s := s.setVm vm0) hZ Y.warmed
    exact ⟨by show (Cond.and _ .tt).before a A.U = true; rw [Cond.before_and, mv hU wc]; rfl, mv hU wc, mv hU wz, hp.2.2.1, hp.2.2.2⟩
  · intro m meth c A a g mk Y hp
    have c1 := CHv.at Y hZ hEW hC.1
    exact ⟨hp.1, wtrans (s := s.setVm vm0) hZ Y.warmed, hp.2.1, c1.1, fun x hx => c1.safe (hsf x hx).1 (hsf x hx).2⟩
  · intro m meth c A a g mk Y _ hg q
    exact known_frames Y hg (hKn q).1 (hKn q).2
  · rintro _ _ _ _ ⟨v, L, h1, h2, h3, h4⟩
    exact ⟨L, _, _, h4, rfl, rfl, ⟨v, h1, h2⟩, h3⟩
  · rintro m meth c A a g mk v t L k n Y hp _ _ ⟨e1, e2, ⟨v', e3, e4⟩, e5⟩
    cases e3; subst e1 e2
    refine ⟨L, e4, rfl, rfl, rfl, (CHv.at Y hZ hEW hC.1).trans ?_⟩
    rw [← hp.2.1]; exact e5
theorem nf_sel {C : String} {y : MethodName} (w : (Cond.selects C y y).before a0 Z = true) : ∀ s' : State, Z.Warmed39 s'.vm → NotFace s' y := fun s' hz => notFace_of_selects (args := #[]) (mvT hz w)
theorem qq_fr {ws' : List Addr} {Po : Option Value → Heap → Vm → Prop} : ∀ v h' vm' L, QQ h n0 ws' Po v h' vm' L → Fr n0 L ∧ Keep h h' ws' := fun _ _ _ _ q => ⟨q.1, q.2.1⟩
theorem nP (cap : Nat) {aty : ArrayType} {n : Int32} {ad : String} (X : Here p l e R s m args below meth c Z bytes maxL ret own nm h0 n0 ws EL kn T h vm0 cells slots) (w : (Cond.arrayClass (newarray.typeOf aty)).before a0 Z = true) (hd : decode bytes pc = .ok (.newarray aty, 2)) (hp : pc + 2 = pc') (hq : ¬ n < 0 ∧ n.toNatClampNeg ≤ cap ∧ cap * 8 ≤ 536870912 ∧ cells + 1 ≤ R.cells ∧ slots + cap ≤ R.slots) (had : "[" ++ (newarray.typeOf aty).toString = ad)
    (k : ∀ T' h' b ka, Here p l e R s m args below meth c Z bytes maxL ret own nm h0 n0 ws EL kn T' h' vm0 (cells + 1) (slots + cap) → b = h.size → b < h'.size → Ext h h' → Arv Z h' b ka (newarray.typeOf aty) n [] (defaultValue (newarray.typeOf aty)) → Exa Z h' b ad → CHr Z EL vm0 h vm0 h' → Safe Z EL vm0 h' b → Go p.tables e below P (T'.setTop (mkF m pc' Ls (.ref b :: st)))) : Go p.tables e below P (T.setTop (mkF m pc Ls (.int n :: st))) := o_newP pc' X w hd hp hq.1 hq.2.1 hq.2.2.1 hq.2.2.2.1 hq.2.2.2.2 had k
theorem had_byte : "[" ++ (newarray.typeOf .byte).toString = "[B" := by decide +kernel
theorem had_char : "[" ++ (newarray.typeOf .char).toString = "[C" := by decide +kernel
theorem sC (i : Nat) (y : Int32) {a : Addr} {ka : ClassId} {n j x : Int32} {vs : List Value} {d : Value} (X : Here p l e R s m args below meth c Z bytes maxL ret own nm h0 n0 ws EL kn T h vm0 cells slots) (F : Arv Z h a ka .char n vs d) (hj : (¬ j < 0 ∧ j < n) ∧ j.toNatClampNeg = i) (hil : i < vs.length) (hv : nar .char x = y) (hd : decode bytes pc = .ok (.castore, 1)) (hp : pc + 1 = pc') (hn0 : n0 ≤ a) (hws : a ∈ ws ∨ h0.size ≤ a) (hsf : Safe Z EL vm0 h a)
    (k : ∀ T' h', Here p l e R s m args below meth c Z bytes maxL ret own nm h0 n0 ws EL kn T' h' vm0 cells slots → (∃ sl w, Wr h h' a sl w) → CHr Z EL vm0 h vm0 h' → Arv Z h' a ka .char n (vs.set i (.int y)) d → Go p.tables e below P (T'.setTop (mkF m pc' Ls st))) : Go p.tables e below P (T.setTop (mkF m pc Ls (.int x :: .int j :: .ref a :: st))) := o_stC pc' X F hj.1 hj.2 hil hv hd hp hn0 hws hsf k
theorem sB (i : Nat) (y : Int32) {a : Addr} {ka : ClassId} {n j x : Int32} {vs : List Value} {d : Value} (X : Here p l e R s m args below meth c Z bytes maxL ret own nm h0 n0 ws EL kn T h vm0 cells slots) (F : Arv Z h a ka .byte n vs d) (hj : (¬ j < 0 ∧ j < n) ∧ j.toNatClampNeg = i) (hil : i < vs.length) (hv : nar .byte x = y) (hd : decode bytes pc = .ok (.bastore, 1)) (hp : pc + 1 = pc') (hn0 : n0 ≤ a) (hws : a ∈ ws ∨ h0.size ≤ a) (hsf : Safe Z EL vm0 h a)
    (k : ∀ T' h', Here p l e R s m args below meth c Z bytes maxL ret own nm h0 n0 ws EL kn T' h' vm0 cells slots → (∃ sl w, Wr h h' a sl w) → CHr Z EL vm0 h vm0 h' → Arv Z h' a ka .byte n (vs.set i (.int y)) d → Go p.tables e below P (T'.setTop (mkF m pc' Ls st))) : Go p.tables e below P (T.setTop (mkF m pc Ls (.int x :: .int j :: .ref a :: st))) := o_stB pc' X F hj.1 hj.2 hil hv hd hp hn0 hws hsf k
def WS_static (Z : State) (a0 : Array Value) (own : String) (index : Nat) (y : MethodName) (bytes' : ByteArray) (maxL' : Nat) (ret' : Option FieldType) (an : Nat) : Prop := ((Cond.methodLink own index y).before a0 Z = true) ∧ ((Cond.static y).before a0 Z = true) ∧ ((Cond.initialized y.cls).before a0 Z = true) ∧ ((Cond.code y bytes' maxL' ret').before a0 Z = true) ∧ (y.cls ≠ "java/lang/invoke/MethodHandle" ∧ y.cls ≠ "java/lang/invoke/VarHandle") ∧ (∀ sig, parseMethodDescriptor y.desc = some sig → an = sig.parameters.length)
theorem mS (W : Nat) {index : Nat} {y : MethodName} {bytes' : ByteArray} {maxL' : Nat} {ret' : Option FieldType} {rm : Room} {ws' sf' : List Addr} {argsL : List Value} {Po : Option Value → Heap → Vm → Prop} (X : Here p l e R s m args below meth c Z bytes maxL ret own nm h0 n0 ws EL kn T h vm0 cells slots) (hM : Old Z n0 h → Met l y bytes' maxL' ret' [] rm Z argsL.toArray h n0 ws' EL kn sf' Po) (hv : WS_static Z a0 own index y bytes' maxL' ret' argsL.length) (hsf : ∀ x ∈ sf', x < h.size ∧ Safe Z EL vm0 h x) (hd : decode bytes pc = .ok (.invokestatic index, 3)) (hp : pc + 3 = pc') (hsz : Ls.size = maxL) (hstk : st = argsL.reverse ++ rest) (hW : (rest.map fun v => v.category).sum ≤ W) (hr : rm.frames + 1 ≤ R.frames ∧ W + (maxL' + 11) + rm.locals ≤ R.locals ∧ cells + rm.cells ≤ R.cells ∧ slots + rm.slots ≤ R.slots) (hws : ∀ x ∈ ws', n0 ≤ x ∧ (x ∈ ws ∨ h0.size ≤ x))
    (k : ∀ v T' h' vm', Here p l e R s m args below meth c Z bytes maxL ret own nm h0 n0 ws EL kn T' h' vm' (cells + rm.cells) (slots + rm.slots) → Po v h' vm' → Keep h h' ws' → h.size ≤ h'.size → CHr Z EL vm0 h vm' h' → Go p.tables e below P (T'.setTop (mkF m pc' Ls (v.toList ++ rest)))) : Go p.tables e below P (T.setTop (mkF m pc Ls st)) := by
  obtain ⟨g0, g1, g2, g3, g4, g5⟩ := hv
  exact o_static pc' X g0 g1 g2 g3 g4 g5 (back_met (hM X.old) X g3 g2 hr.1 hr.2.1 hsf) hd hp hsz hstk hW hr.2.2.1 hr.2.2.2 qq_fr hws (fun v T' h' L vm' X' q K C => k v T' h' vm' X' q.2.2 K K.1 C)
def WS_special (Z : State) (a0 : Array Value) (own : String) (index : Nat) (y : MethodName) (bytes' : ByteArray) (maxL' : Nat) (an : Nat) : Prop := ((Cond.initialized y.cls).before a0 Z = true) ∧ (y.name = "<init>") ∧ ((Cond.methodLink own index y).before a0 Z = true) ∧ ((Cond.instanceMethod y).before a0 Z = true) ∧ ((Cond.code y bytes' maxL' none).before a0 Z = true) ∧ (y.cls ≠ "java/lang/invoke/MethodHandle" ∧ y.cls ≠ "java/lang/invoke/VarHandle") ∧ (∀ sig, parseMethodDescriptor y.desc = some sig → an = sig.parameters.length)
theorem mP (W : Nat) {b : Addr} {index : Nat} {y : MethodName} {bytes' : ByteArray} {maxL' : Nat} {rm : Room} {ws' sf' : List Addr} {argsL : List Value} {Po : Option Value → Heap → Vm → Prop} (X : Here p l e R s m args below meth c Z bytes maxL ret own nm h0 n0 ws EL kn T h vm0 cells slots) (hM : Old Z n0 h → Met l y bytes' maxL' none [] rm Z (.ref b :: argsL).toArray h n0 ws' EL kn sf' Po) (hv : WS_special Z a0 own index y bytes' maxL' argsL.length) (hsf : ∀ x ∈ sf', x < h.size ∧ Safe Z EL vm0 h x) (hd : decode bytes pc = .ok (.invokespecial index, 3)) (hp : pc + 3 = pc') (hsz : Ls.size = maxL) (hstk : st = argsL.reverse ++ .ref b :: rest) (hW : (rest.map fun v => v.category).sum ≤ W) (hr : rm.frames + 1 ≤ R.frames ∧ W + (maxL' + 11) + rm.locals ≤ R.locals ∧ cells + rm.cells ≤ R.cells ∧ slots + rm.slots ≤ R.slots) (hws : ∀ x ∈ ws', n0 ≤ x ∧ (x ∈ ws ∨ h0.size ≤ x))
    (k : ∀ v T' h' vm', Here p l e R s m args below meth c Z bytes maxL ret own nm h0 n0 ws EL kn T' h' vm' (cells + rm.cells) (slots + rm.slots) → Po v h' vm' → Keep h h' ws' → h.size ≤ h'.size → CHr Z EL vm0 h vm' h' → Go p.tables e below P (T'.setTop (mkF m pc' Ls (v.toList ++ rest)))) : Go p.tables e below P (T.setTop (mkF m pc Ls st)) := by
  obtain ⟨gz, g0, g1, g2, g3, g4, g5⟩ := hv
  exact o_special pc' X g0 g1 g2 g3 g4 g5 (back_met (hM X.old) X g3 gz hr.1 hr.2.1 hsf) hd hp hsz hstk hW hr.2.2.1 hr.2.2.2 qq_fr hws (fun v T' h' L vm' X' q K C => k v T' h' vm' X' q.2.2 K K.1 C)
def WS_virtual (Z : State) (a0 : Array Value) (own : String) (index : Nat) (C : String) (y z : MethodName) (bytes' : ByteArray) (maxL' : Nat) (ret' : Option FieldType) (an : Nat) : Prop := ((Cond.code z bytes' maxL' ret').before a0 Z = true) ∧ ((Cond.initialized z.cls).before a0 Z = true) ∧ ((Cond.methodLink own index y).before a0 Z = true) ∧ ((Cond.declares y).before a0 Z = true) ∧ ((Cond.selects C y z).before a0 Z = true) ∧ ((Cond.instanceMethod z).before a0 Z = true) ∧ (∀ s' : State, Z.Warmed39 s'.vm → NotFace s' y) ∧ (y.cls ≠ "java/lang/invoke/MethodHandle" ∧ y.cls ≠ "java/lang/invoke/VarHandle") ∧ (∀ sig, parseMethodDescriptor y.desc = some sig → an = sig.parameters.length)
theorem mV (W : Nat) {b : Addr} {index : Nat} {C : String} {y z : MethodName} {bytes' : ByteArray} {maxL' : Nat} {ret' : Option FieldType} {rm : Room} {ws' sf' : List Addr} {argsL : List Value} {Po : Option Value → Heap → Vm → Prop} (X : Here p l e R s m args below meth c Z bytes maxL ret own nm h0 n0 ws EL kn T h vm0 cells slots) (E : Exa Z h b C) (hM : Old Z n0 h → Met l z bytes' maxL' ret' [] rm Z (.ref b :: argsL).toArray h n0 ws' EL kn sf' Po) (hv : WS_virtual Z a0 own index C y z bytes' maxL' ret' argsL.length) (hsf : ∀ x ∈ sf', x < h.size ∧ Safe Z EL vm0 h x) (hd : decode bytes pc = .ok (.invokevirtual index, 3)) (hp : pc + 3 = pc') (hsz : Ls.size = maxL) (hstk : st = argsL.reverse ++ .ref b :: rest) (hW : (rest.map fun v => v.category).sum ≤ W) (hr : rm.frames + 1 ≤ R.frames ∧ W + (maxL' + 11) + rm.locals ≤ R.locals ∧ cells + rm.cells ≤ R.cells ∧ slots + rm.slots ≤ R.slots) (hws : ∀ x ∈ ws', n0 ≤ x ∧ (x ∈ ws ∨ h0.size ≤ x))
    (k : ∀ v T' h' vm', Here p l e R s m args below meth c Z bytes maxL ret own nm h0 n0 ws EL kn T' h' vm' (cells + rm.cells) (slots + rm.slots) → Po v h' vm' → Keep h h' ws' → h.size ≤ h'.size → CHr Z EL vm0 h vm' h' → Go p.tables e below P (T'.setTop (mkF m pc' Ls (v.toList ++ rest)))) : Go p.tables e below P (T.setTop (mkF m pc Ls st)) := by
  obtain ⟨gc, gz, g0, g1, g2, g3, g4, g5, g6⟩ := hv
  exact o_virtual pc' X E g0 g1 g2 g3 g4 g5 g6 (back_met (hM X.old) X gc gz hr.1 hr.2.1 hsf) hd hp hsz hstk hW hr.2.2.1 hr.2.2.2 qq_fr hws (fun v T' h' L vm' X' q K C => k v T' h' vm' X' q.2.2 K K.1 C)
theorem jn (pc2 : Nat) (S : Int32 → Prop) (Lf : Int32 → Array Slot) (h1 : ∀ a, S a → Go p.tables e below P (T.setTop (mkF m pc2 (Lf a) []))) (h2 : (∀ a, S a → Go p.tables e below P (T.setTop (mkF m pc2 (Lf a) []))) → Go p.tables e below P (T.setTop (mkF m pc Ls st))) : Go p.tables e below P (T.setTop (mkF m pc Ls st)) := h2 h1
def BI (y : MethodName) (own nm : String) : Prop := plainFor y = true ∧ y.cls = own ∧ y.name = nm
theorem mi {y : MethodName} {wl : List Cond} {as' : Array Value} {Po : Option Value → Heap → Vm → Prop} (hB : BI y own nm) (hef : ∀ m, entryFrame m as' maxL = mkF m 0 Ls []) (hew : EW Z a0 EL)
    (body : ∀ {p e m below meth c s₁} s, Here p l e R s m as' below meth c Z bytes maxL ret own nm h0 n0 ws EL kn s₁ h0 s.vm 0 0 → (∀ x ∈ sf, Safe Z EL s.vm h0 x) → n0 ≤ h0.size → Go p.tables e below (PO s R h0 n0 ws Z EL Po) (s₁.setTop (mkF m 0 Ls []))) : Old Z n0 h0 → Met l y bytes maxL ret wl R Z as' h0 n0 ws EL kn sf Po := fun O =>
  met_intro hB.1 hB.2.1 hB.2.2 O hew fun p e s m below meth c s₁ X hs => Go.cast (hef m) (body s X hs X.n0le)
theorem sx {a : Addr} {C : String} (X : Here p l e R s m args below meth c Z bytes maxL ret own nm h0 n0 ws EL kn T h vm0 cells slots) (E : Exa Z h a C) (q : C ≠ "java/lang/String" ∧ C ≠ "[B") : Safe Z EL vm0 h a := Safe.exa X.al E q.1 q.2
theorem sS {a : Addr} {L : List Addr} (q1 : h.size > a) (q2 : Safe Z EL vm0 h a) (r : ∀ x ∈ L, x < h.size ∧ Safe Z EL vm0 h x) : ∀ x ∈ a :: L, x < h.size ∧ Safe Z EL vm0 h x := allS ⟨q1, q2⟩ r
theorem aI {a : Addr} {L : List Addr} (q : n0 ≤ a) (q2 : a ∈ ws) (r : ∀ x ∈ L, n0 ≤ x ∧ (x ∈ ws ∨ h0.size ≤ x)) : ∀ x ∈ a :: L, n0 ≤ x ∧ (x ∈ ws ∨ h0.size ≤ x) := allS ⟨q, Or.inl q2⟩ r
theorem aR {a : Addr} {L : List Addr} (q : n0 ≤ a ∧ h0.size ≤ a) (r : ∀ x ∈ L, n0 ≤ x ∧ (x ∈ ws ∨ h0.size ≤ x)) : ∀ x ∈ a :: L, n0 ≤ x ∧ (x ∈ ws ∨ h0.size ≤ x) := allS ⟨q.1, Or.inr q.2⟩ r
end Kit
end Jvm.OwnKit
namespace Jvm.OwnKit
open Sem ClassFile Op Lib Jvm.Stand Jvm.Free Jvm.LawKit Jvm.RoadKit
section Common
variable {Z : State} {h : Heap} {a0 : Array Value}
theorem own_ne {a b : Nat} (h : a < b ∨ b < a) : a ≠ b := fun q => by omega
theorem own_lt {a b : Nat} (h : b > a) : a < b := h
theorem own_c255 (x c : Int32) (e : (x &&& (255 : Int32)).toUInt32.toUInt16.toUInt32.toInt32 = c) : ¬ c < 0 ∧ ¬ (255 : Int32) < c := by
  subst e
  have t : ∀ k : Fin 256, ¬ ((Int32.ofNat k.val).toUInt32.toUInt16.toUInt32.toInt32) < 0 ∧ ¬ (255 : Int32) < ((Int32.ofNat k.val).toUInt32.toUInt16.toUInt32.toInt32) := by decide +kernel
  have h : (x &&& 255).toBitVec.toNat < 256 := by
    simp only [Int32.toBitVec_and, BitVec.toNat_and]
    exact Nat.lt_succ_of_le Nat.and_le_right
  have e : (x &&& 255) = Int32.ofNat (x &&& 255).toBitVec.toNat := by
    apply Int32.toBitVec_inj.mp
    show _ = BitVec.ofNat 32 _
    rw [BitVec.ofNat_toNat]; simp
  rw [e]
  exact t ⟨_, h⟩
theorem own_narC {c : Int32} (r : ¬ c < 0 ∧ ¬ (255 : Int32) < c) : nar .char c = c := by
  have t : ∀ k : Fin 256, nar .char (Int32.ofNat k.val) = Int32.ofNat k.val := by decide +kernel
  have h1 : 0 ≤ c.toInt := by have q := r.1; rw [Int32.lt_iff_toInt_lt] at q; have e : (0 : Int32).toInt = 0 := rfl; omega
  have h2 : c.toInt ≤ 255 := by have q := r.2; rw [Int32.lt_iff_toInt_lt] at q; have e : (255 : Int32).toInt = 255 := rfl; omega
  have e : c = Int32.ofNat c.toInt.toNat := by
    apply Int32.toInt_inj.mp
    rw [Int32.toInt_ofNat_of_lt (by omega)]
    omega
  rw [e]
  exact t ⟨c.toInt.toNat, by omega⟩
theorem own_narB (x : Int32) : nar .byte (x.toInt8.toInt32) = x.toInt8.toInt32 := by simp [nar]
theorem own_and3 (x : Int32) : x &&& 3 = 0 ∨ x &&& 3 = 1 ∨ x &&& 3 = 2 ∨ x &&& 3 = 3 := by
  obtain ⟨h1, h2⟩ := c_and x 3 (by decide)
  have e3 : (3 : Int32).toInt = 3 := by decide
  rw [e3] at h2
  have e0 : (0 : Int32).toInt = 0 := by decide
  have e1 : (1 : Int32).toInt = 1 := by decide
  have e2 : (2 : Int32).toInt = 2 := by decide
  rcases (by omega : (x &&& 3).toInt = 0 ∨ (x &&& 3).toInt = 1 ∨ (x &&& 3).toInt = 2 ∨ (x &&& 3).toInt = 3) with q | q | q | q
  · exact Or.inl (Int32.toInt_inj.mp (q.trans e0.symm))
  · exact Or.inr (Or.inl (Int32.toInt_inj.mp (q.trans e1.symm)))
  · exact Or.inr (Or.inr (Or.inl (Int32.toInt_inj.mp (q.trans e2.symm))))
  · exact Or.inr (Or.inr (Or.inr (Int32.toInt_inj.mp (q.trans e3.symm))))
def own_bs (cs : List Int32) : List Value := (cs.map (fun c => c.toInt8.toInt32)).map Value.int
end Common
end Jvm.OwnKit
namespace Jvm.OwnKit
open Sem ClassFile Op Lib Jvm.Stand Jvm.Free Jvm.LawKit Jvm.RoadKit
theorem own_arrRef {args : Array Value} {first s : State} {o : Option Outcome} {idx : List Nat} {t : Term} {ty : FieldType} (h : (Cond.arrayOf t ty).value args first o s idx = some true) : ∃ a, t.eval args first o idx s = some (.ref a) := by
  simp only [Cond.value] at h
  split at h
  · cases h
  · cases ht : t.eval args first o idx s with
    | none => simp [ht] at h
    | some x => cases x <;> simp [ht] at h ⊢
end Jvm.OwnKit
namespace Jvm.RoadKit
open Sem ClassFile Op Lib Jvm.Stand Jvm.Free Jvm.LawKit Jvm.OwnKit
section Squeeze
variable {Z : State} {h h' : Heap} {a b c d : Addr} {C n dd : String} {v w : Value} {sl : Nat} {k : ClassId} {ty : FieldType} {z : Int32} {vs : List Value} {dv : Value}
theorem Exa.l (F : Exa Z h a C) : @LT.lt Nat _ a h.size := F.lt
theorem Fld.l (F : Fld Z h a C n dd w) : @LT.lt Nat _ a h.size := F.lt
theorem Arv.l (F : Arv Z h a k ty z vs dv) : @LT.lt Nat _ a h.size := F.lt
theorem Fld.oth (F : Fld Z h b C n dd w) (W : Wr h h' a sl v) (q : @LT.lt Nat _ b a ∨ @LT.lt Nat _ a b) : Fld Z h' b C n dd w := Fld.other W F (Or.inl (own_ne q))
theorem Fld.k0 (F : Fld Z h b C n dd w) (K : Keep h h' []) : Fld Z h' b C n dd w := F.keep K nin0
theorem Fld.k1 (F : Fld Z h b C n dd w) (K : Keep h h' [a]) (q : @LT.lt Nat _ b a ∨ @LT.lt Nat _ a b) : Fld Z h' b C n dd w := F.keep K (ninS (own_ne q) nin0)
theorem Fld.k2 (F : Fld Z h b C n dd w) (K : Keep h h' [a, c]) (q : (@LT.lt Nat _ b a ∨ @LT.lt Nat _ a b) ∧ (@LT.lt Nat _ b c ∨ @LT.lt Nat _ c b)) : Fld Z h' b C n dd w := F.keep K (ninS (own_ne q.1) (ninS (own_ne q.2) nin0))
theorem Arv.oth (F : Arv Z h b k ty z vs dv) (W : Wr h h' a sl v) (q : @LT.lt Nat _ b a ∨ @LT.lt Nat _ a b) : Arv Z h' b k ty z vs dv := F.other W (own_ne q)
theorem Arv.k0 (F : Arv Z h b k ty z vs dv) (K : Keep h h' []) : Arv Z h' b k ty z vs dv := F.keep K nin0
theorem Arv.k1 (F : Arv Z h b k ty z vs dv) (K : Keep h h' [a]) (q : @LT.lt Nat _ b a ∨ @LT.lt Nat _ a b) : Arv Z h' b k ty z vs dv := F.keep K (ninS (own_ne q) nin0)
theorem Arv.k2 (F : Arv Z h b k ty z vs dv) (K : Keep h h' [a, c]) (q : (@LT.lt Nat _ b a ∨ @LT.lt Nat _ a b) ∧ (@LT.lt Nat _ b c ∨ @LT.lt Nat _ c b)) : Arv Z h' b k ty z vs dv := F.keep K (ninS (own_ne q.1) (ninS (own_ne q.2) nin0))
theorem Arv.as (F : Arv Z h b k ty z vs dv) (vs' : List Value) (q : vs = vs') : Arv Z h b k ty z vs' dv := q ▸ F
end Squeeze
end Jvm.RoadKit
namespace Jvm.OwnKit
open Sem ClassFile Op Lib Jvm.Stand Jvm.Free Jvm.LawKit Jvm.RoadKit
abbrev NE (a b : Addr) : Prop := Nat.succ a ≠ Nat.succ b
abbrev DC (c : ByteArray) (pc : Nat) (i : Instr) (n : Nat) : Prop := decode c pc = .ok (i, n)
abbrev i0 : Value := .int 0
abbrev uu : Slot := .unset
abbrev rr (a : Addr) : Slot := .val (.ref a)
abbrev ii (n : Int32) : Slot := .val (.int n)
theorem lr {n : Nat} : n ≤ n := Nat.le_refl n
theorem own_nes {x a b : Addr} (h : x ≠ a ∧ x ≠ b) : NE x a ∧ NE x b := ⟨fun q => h.1 (Nat.succ.inj q), fun q => h.2 (Nat.succ.inj q)⟩
theorem lb {a b : Nat} (h : Nat.ble (a + 1) b = true) : a < b := Nat.le_of_ble_eq_true h
theorem lenN {d : String} {n : Nat} {g : MethodDescriptor} (h : parseMethodDescriptor d = some g) (q : n = g.parameters.length) : ∀ sig, parseMethodDescriptor d = some sig → n = sig.parameters.length := fun sig e => by cases h.symm.trans e; exact q
theorem wm {α : Type _} {l : List α} {i : Nat} {a : α} (h : l[i]? = some a) : a ∈ l := List.mem_of_getElem? h
end Jvm.OwnKit
namespace Jvm.OwnKit
open Sem ClassFile Op Lib Jvm.Stand Jvm.Free Jvm.LawKit Jvm.RoadKit
def oEq (a b : List Int32) : Int32 := if a = b then 1 else 0
theorem own_eqP {a b : List Int32} (h : a = b) : (some (Value.int 1) : Option Value) = some (.int (oEq a b)) := by rw [oEq, if_pos h]
theorem own_eqN {a b : List Int32} (h : ¬ a = b) : (some (Value.int 0) : Option Value) = some (.int (oEq a b)) := by rw [oEq, if_neg h]
theorem own_and7 (x : Int32) : (x &&& (7 : Int32)) = 0 ∨ (x &&& (7 : Int32)) = 1 ∨ (x &&& (7 : Int32)) = 2 ∨ (x &&& (7 : Int32)) = 3 ∨ (x &&& (7 : Int32)) = 4 ∨ (x &&& (7 : Int32)) = 5 ∨ (x &&& (7 : Int32)) = 6 ∨ (x &&& (7 : Int32)) = 7 := by
  have h : (x &&& (7 : Int32)).toBitVec.toNat < 8 := by
    simp only [Int32.toBitVec_and, BitVec.toNat_and]
    exact Nat.lt_succ_of_le Nat.and_le_right
  have e : (x &&& (7 : Int32)) = Int32.ofNat (x &&& (7 : Int32)).toBitVec.toNat := by
    apply Int32.toBitVec_inj.mp
    show _ = BitVec.ofNat 32 _
    rw [BitVec.ofNat_toNat]; simp
  rw [e]
  exact (by decide : ∀ k : Fin 8, Int32.ofNat k.val = 0 ∨ Int32.ofNat k.val = 1 ∨ Int32.ofNat k.val = 2 ∨ Int32.ofNat k.val = 3 ∨ Int32.ofNat k.val = 4 ∨ Int32.ofNat k.val = 5 ∨ Int32.ofNat k.val = 6 ∨ Int32.ofNat k.val = 7) ⟨_, h⟩
theorem own_getI (cs : List Int32) (i : Nat) : (cs.map Value.int).getD i (.int 0) = .int (cs.getD i 0) := by
  rw [List.getD_eq_getElem?_getD, List.getD_eq_getElem?_getD, List.getElem?_map]
  cases cs[i]? <;> rfl
theorem own_neL {Z : State} {h : Heap} {a1 a2 b1 b2 : Addr} {C n d : String} {k1 k2 : ClassId} {t1 t2 : FieldType} {n1 n2 : Int32} {v1 v2 : List Value} {d1 d2 : Value} (F1 : Fld Z h a1 C n d (.ref b1)) (A1 : Arv Z h b1 k1 t1 n1 v1 d1) (F2 : Fld Z h a2 C n d (.ref b2)) (A2 : Arv Z h b2 k2 t2 n2 v2 d2) (hn : n1.toNatClampNeg ≠ n2.toNatClampNeg) : NE a1 a2 := fun q => by
  cases Nat.succ.inj q
  obtain ⟨c1, cf1, kk1, i1, f1, h1, e1, -, -, -, -, s1⟩ := F1
  obtain ⟨c2, cf2, kk2, i2, f2, h2, e2, -, -, -, -, s2⟩ := F2
  cases h1.symm.trans h2
  cases e1.symm.trans e2
  cases s1.symm.trans s2
  obtain ⟨g1, G1, -, z1, -⟩ := A1
  obtain ⟨g2, G2, -, z2, -⟩ := A2
  cases G1.1.symm.trans G2.1
  exact hn (z1.symm.trans z2)
theorem own_arvT {args : Array Value} {s : State} {t : Term} {ty : FieldType} {n : Int32} {vs : List Value} {a : Addr} {dv : Value} (ev : t.eval args s none [] s = some (.ref a)) (w5 : (Cond.arrayOf t ty).before args s = true) (w6 : (Cond.eq (Term.length t) (Term.int n)).before args s = true) (hN : ¬ n < 0 ∧ n.toNatClampNeg = vs.length) (hlen : vs.length < 256)
    (hel : ∀ i, i < vs.length → (Term.elem t (.int i.toInt32)).eval args s none [] s = some (vs.getD i dv)) (hfit : ∀ i, i < vs.length → fits ty (vs.getD i dv) = true) : ∃ k, Arv s s.heap a k ty n vs dv := by
  obtain ⟨a', cell, e, hA, harr, hvm⟩ := Jvm.Free.IntBox.arrayOf_fwd w5 ev
  cases e
  have hat := Jvm.Free.IntBox.arrayAt_of hA harr hvm
  obtain ⟨hsz, hsize⟩ := Jvm.Free.IntBox.length_fwd w6 ev hA harr hvm
  have hs : cell.slots.size = vs.length := by
    have e : (cell.slots.size.toInt32).toInt = cell.slots.size := by
      have : (cell.slots.size.toInt32).toInt = (cell.slots.size : Int).bmod (2 ^ 32) := by simp [Nat.toInt32, Int32.size]
      rw [this]; simp [Int.bmod]; omega
    rw [hsize] at e
    have q := hN.2
    simp only [Int32.toNatClampNeg] at q
    omega
  refine ⟨cell.cls, cell, ⟨hA, harr, hvm⟩, rfl, by rw [hs, hN.2], hN.1, fun k hk => ?_, fun k hk => hfit k (by omega)⟩
  have q := hel k (by omega)
  obtain ⟨hnn, hback⟩ := Jvm.Free.IntBox.place_nonneg k (by omega)
  have e2 : (Term.elem t (.int k.toInt32)).eval args s none [] s = cell.slots[k]? := by
    simp [Term.eval, ev, hnn, hat, hback]
  rw [← e2]; exact q
end Jvm.OwnKit

namespace Jvm.Pilot.@@N@@
open Jvm Jvm.ClassFile Sem Op Lib Jvm.Free Jvm.Stand Jvm.LawKit Jvm.RoadKit Bundle Jvm.Pilot.@@N@@.Jvm.D Jvm.OwnKit

theorem hws_str {a0 : Array Value} {Z : State} (hw : ∀ d ∈ tables_1, d.before a0 Z = true) : ∀ d ∈ Bundle.stringAtoms, d.before a0 Z = true := fun d hd => hw d ((by decide +kernel : ∀ d ∈ Bundle.stringAtoms, d ∈ tables_1) d hd)
theorem w_0 {a0 : Array Value} {Z : State} (hw : ∀ d ∈ tables_1, d.before a0 Z = true) : (Jvm.Cond.stringLink "com/example/hedgerow/hedgerow/setup/KindSpeltPinLaw" (7 : Nat) "user").before a0 Z = true := hw _ (List.mem_of_getElem? (i := 0) rfl)
theorem w_2 {a0 : Array Value} {Z : State} (hw : ∀ d ∈ tables_1, d.before a0 Z = true) : (Jvm.Cond.instantiable "java/lang/String" (4 : Nat)).before a0 Z = true := hw _ (List.mem_of_getElem? (i := 2) rfl)
theorem w_3 {a0 : Array Value} {Z : State} (hw : ∀ d ∈ tables_1, d.before a0 Z = true) : (Jvm.Cond.arrayClass Jvm.ClassFile.FieldType.byte).before a0 Z = true := hw _ (List.mem_of_getElem? (i := 3) rfl)
theorem w_85 {a0 : Array Value} {Z : State} (hw : ∀ d ∈ tables_1, d.before a0 Z = true) : (Jvm.Cond.stringLink "com/example/hedgerow/hedgerow/setup/KindSpeltPinLaw" (9 : Nat) "role").before a0 Z = true := hw _ (List.mem_of_getElem? (i := 85) rfl)
theorem w_86 {a0 : Array Value} {Z : State} (hw : ∀ d ∈ tables_1, d.before a0 Z = true) : (Jvm.Cond.stringLink "com/example/hedgerow/hedgerow/setup/KindSpeltPinLaw" (11 : Nat) "group").before a0 Z = true := hw _ (List.mem_of_getElem? (i := 86) rfl)
theorem w_87 {a0 : Array Value} {Z : State} (hw : ∀ d ∈ tables_1, d.before a0 Z = true) : (Jvm.Cond.stringLink "com/example/hedgerow/hedgerow/setup/KindSpeltPinLaw" (13 : Nat) "role-and-subordinates").before a0 Z = true := hw _ (List.mem_of_getElem? (i := 87) rfl)
theorem w_90 {a0 : Array Value} {Z : State} (hw : ∀ d ∈ tables_1, d.before a0 Z = true) : (Jvm.Cond.initialized "com/example/hedgerow/hedgerow/setup/Category$Kind").before a0 Z = true := hw _ (List.mem_of_getElem? (i := 90) rfl)
theorem w_104 {a0 : Array Value} {Z : State} (hw : ∀ d ∈ tables_1, d.before a0 Z = true) : (Jvm.Cond.laysStatic "com/example/hedgerow/hedgerow/setup/Category$Kind" "USER" "Lcom/example/hedgerow/hedgerow/setup/Category$Kind;").before a0 Z = true := hw _ (List.mem_of_getElem? (i := 104) rfl)
theorem w_105 {a0 : Array Value} {Z : State} (hw : ∀ d ∈ tables_1, d.before a0 Z = true) : (Jvm.Cond.laysStatic "com/example/hedgerow/hedgerow/setup/Category$Kind" "ROLE" "Lcom/example/hedgerow/hedgerow/setup/Category$Kind;").before a0 Z = true := hw _ (List.mem_of_getElem? (i := 105) rfl)
theorem w_106 {a0 : Array Value} {Z : State} (hw : ∀ d ∈ tables_1, d.before a0 Z = true) : (Jvm.Cond.laysStatic "com/example/hedgerow/hedgerow/setup/Category$Kind" "ROLE_AND_SUBORDINATES" "Lcom/example/hedgerow/hedgerow/setup/Category$Kind;").before a0 Z = true := hw _ (List.mem_of_getElem? (i := 106) rfl)
theorem w_107 {a0 : Array Value} {Z : State} (hw : ∀ d ∈ tables_1, d.before a0 Z = true) : (Jvm.Cond.laysStatic "com/example/hedgerow/hedgerow/setup/Category$Kind" "GROUP" "Lcom/example/hedgerow/hedgerow/setup/Category$Kind;").before a0 Z = true := hw _ (List.mem_of_getElem? (i := 107) rfl)
theorem w_108 {a0 : Array Value} {Z : State} (hw : ∀ d ∈ tables_1, d.before a0 Z = true) : (Jvm.Cond.initializedFor "com/example/hedgerow/hedgerow/setup/Category$Kind" "$VALUES" "[Lcom/example/hedgerow/hedgerow/setup/Category$Kind;").before a0 Z = true := hw _ (List.mem_of_getElem? (i := 108) rfl)
theorem w_143 {a0 : Array Value} {Z : State} (hw : ∀ d ∈ tables_1, d.before a0 Z = true) : (Jvm.Cond.stringLink "com/example/hedgerow/hedgerow/setup/KindSpeltPinLaw" (52 : Nat) "").before a0 Z = true := hw _ (List.mem_of_getElem? (i := 143) rfl)
theorem own_all4' {P : Nat → Prop} (h0 : P 0) (h1 : P 1) (h2 : P 2) (h3 : P 3) : ∀ i, i < 4 → P i := by
  intro i hi
  match i, hi with
  | 0, _ => exact h0
  | 1, _ => exact h1
  | 2, _ => exact h2
  | 3, _ => exact h3
theorem own_all5' {P : Nat → Prop} (h0 : P 0) (h1 : P 1) (h2 : P 2) (h3 : P 3) (h4 : P 4) : ∀ i, i < 5 → P i := by
  intro i hi
  match i, hi with
  | 0, _ => exact h0
  | 1, _ => exact h1
  | 2, _ => exact h2
  | 3, _ => exact h3
  | 4, _ => exact h4
theorem own_all21' {P : Nat → Prop} (h0 : P 0) (h1 : P 1) (h2 : P 2) (h3 : P 3) (h4 : P 4) (h5 : P 5) (h6 : P 6) (h7 : P 7) (h8 : P 8) (h9 : P 9) (h10 : P 10) (h11 : P 11) (h12 : P 12) (h13 : P 13) (h14 : P 14) (h15 : P 15) (h16 : P 16) (h17 : P 17) (h18 : P 18) (h19 : P 19) (h20 : P 20) : ∀ i, i < 21 → P i := by
  intro i hi
  match i, hi with
  | 0, _ => exact h0
  | 1, _ => exact h1
  | 2, _ => exact h2
  | 3, _ => exact h3
  | 4, _ => exact h4
  | 5, _ => exact h5
  | 6, _ => exact h6
  | 7, _ => exact h7
  | 8, _ => exact h8
  | 9, _ => exact h9
  | 10, _ => exact h10
  | 11, _ => exact h11
  | 12, _ => exact h12
  | 13, _ => exact h13
  | 14, _ => exact h14
  | 15, _ => exact h15
  | 16, _ => exact h16
  | 17, _ => exact h17
  | 18, _ => exact h18
  | 19, _ => exact h19
  | 20, _ => exact h20
  | k + 21, h => exact absurd h (by omega)
theorem Cond.value_holds {c : Jvm.Cond} {args : Array Value} {s : State} (h : c.value args s none s [] = some true) : c.holds args s none s [] = true := Cond.before_iff.mpr h
section Walks
set_option maxRecDepth 65536
set_option maxHeartbeats 40000000
abbrev EL0 : List (String × Nat) := [("com/example/hedgerow/hedgerow/setup/KindSpeltPinLaw", 7), ("com/example/hedgerow/hedgerow/setup/KindSpeltPinLaw", 9), ("com/example/hedgerow/hedgerow/setup/KindSpeltPinLaw", 11), ("com/example/hedgerow/hedgerow/setup/KindSpeltPinLaw", 13), ("com/example/hedgerow/hedgerow/setup/KindSpeltPinLaw", 52)]
abbrev ex0 (Z : State) (h : Heap) (a : Addr) : Prop := Exa Z h a "java/lang/String"
abbrev ex1 (Z : State) (h : Heap) (a : Addr) : Prop := Exa Z h a "[C"
abbrev ex2 (Z : State) (h : Heap) (a : Addr) : Prop := Exa Z h a "[Lcom/example/hedgerow/hedgerow/setup/Category$Kind;"
abbrev ex3 (Z : State) (h : Heap) (a : Addr) : Prop := Exa Z h a "[B"
abbrev ex4 (Z : State) (h : Heap) (a : Addr) : Prop := Exa Z h a "java/util/Optional"
abbrev fd0 (Z : State) (h : Heap) (a : Addr) (v : Value) : Prop := Fld Z h a "java/lang/String" "coder" "B" v
abbrev fd1 (Z : State) (h : Heap) (a : Addr) (v : Value) : Prop := Fld Z h a "java/lang/String" "value" "[B" v
abbrev fd2 (Z : State) (h : Heap) (a : Addr) (v : Value) : Prop := Fld Z h a "java/util/Optional" "value" "Ljava/lang/Object;" v
abbrev av0 (Z : State) (h : Heap) (a : Addr) (k : ClassId) (z : Int32) (vs : List Value) : Prop := Arv Z h a k .byte z vs (.int (0 : Int32))
abbrev av1 (Z : State) (h : Heap) (a : Addr) (k : ClassId) (z : Int32) (vs : List Value) : Prop := Arv Z h a k .char z vs (.int (0 : Int32))
abbrev av2 (Z : State) (h : Heap) (a : Addr) (k : ClassId) (z : Int32) (vs : List Value) : Prop := Arv Z h a k (.object "com/example/hedgerow/hedgerow/setup/Category$Kind") z vs .null
abbrev GL (l : Launch) (Z : State) (a0 : Array Value) (zc : Int32) (fmt : Value) (oem : Addr) (vva : Addr) (kvv : ClassId) (ku1 : Addr) (ku2 : Addr) (ku3 : Addr) (ku4 : Addr) (su1 : Addr) (tu1 : Addr) (ktu1 : ClassId) (su2 : Addr) (tu2 : Addr) (ktu2 : ClassId) (su3 : Addr) (tu3 : Addr) (ktu3 : ClassId) (su4 : Addr) (tu4 : Addr) (ktu4 : ClassId) : Prop := (∀ d ∈ tables_1, d.before a0 Z = true) ∧ (Sta Z Z.heap "java/lang/String" "COMPACT_STRINGS" "Z" (.int zc)) ∧ (¬ (zc = (0 : Int32))) ∧ (EW Z a0 EL0) ∧ (Sta Z Z.heap "jdk/internal/util/Preconditions" "SIOOBE_FORMATTER" "Ljava/util/function/BiFunction;" fmt) ∧ (fmt.isRef = true) ∧ (Sta Z Z.heap "java/util/Optional" "EMPTY" "Ljava/util/Optional;" (.ref oem)) ∧ (Exa Z Z.heap oem "java/util/Optional") ∧ (Fld Z Z.heap oem "java/util/Optional" "value" "Ljava/lang/Object;" .null) ∧ (Sta Z Z.heap "com/example/hedgerow/hedgerow/setup/Category$Kind" "$VALUES" "[Lcom/example/hedgerow/hedgerow/setup/Category$Kind;" (.ref vva)) ∧ (Arv Z Z.heap vva kvv (.object "com/example/hedgerow/hedgerow/setup/Category$Kind") (4 : Int32) [.ref ku1, .ref ku2, .ref ku3, .ref ku4] .null) ∧ (Exa Z Z.heap vva "[Lcom/example/hedgerow/hedgerow/setup/Category$Kind;") ∧ (Sta Z Z.heap "com/example/hedgerow/hedgerow/setup/Category$Kind" "USER" "Lcom/example/hedgerow/hedgerow/setup/Category$Kind;" (.ref ku1)) ∧ (Exa Z Z.heap ku1 "com/example/hedgerow/hedgerow/setup/Category$Kind") ∧ (Fld Z Z.heap ku1 "com/example/hedgerow/hedgerow/setup/Category$Kind" "spelling" "Ljava/lang/String;" (.ref su1)) ∧ (Exa Z Z.heap su1 "java/lang/String") ∧ (Fld Z Z.heap su1 "java/lang/String" "coder" "B" (.int 0)) ∧ (Fld Z Z.heap su1 "java/lang/String" "value" "[B" (.ref tu1)) ∧ (Arv Z Z.heap tu1 ktu1 .byte (4 : Int32) [.int 117, .int 115, .int 101, .int 114] (.int (0 : Int32))) ∧ (Sta Z Z.heap "com/example/hedgerow/hedgerow/setup/Category$Kind" "ROLE" "Lcom/example/hedgerow/hedgerow/setup/Category$Kind;" (.ref ku2)) ∧ (Exa Z Z.heap ku2 "com/example/hedgerow/hedgerow/setup/Category$Kind") ∧ (Fld Z Z.heap ku2 "com/example/hedgerow/hedgerow/setup/Category$Kind" "spelling" "Ljava/lang/String;" (.ref su2)) ∧ (Exa Z Z.heap su2 "java/lang/String") ∧ (Fld Z Z.heap su2 "java/lang/String" "coder" "B" (.int 0)) ∧ (Fld Z Z.heap su2 "java/lang/String" "value" "[B" (.ref tu2)) ∧ (Arv Z Z.heap tu2 ktu2 .byte (4 : Int32) [.int 114, .int 111, .int 108, .int 101] (.int (0 : Int32))) ∧ (Sta Z Z.heap "com/example/hedgerow/hedgerow/setup/Category$Kind" "ROLE_AND_SUBORDINATES" "Lcom/example/hedgerow/hedgerow/setup/Category$Kind;" (.ref ku3)) ∧ (Exa Z Z.heap ku3 "com/example/hedgerow/hedgerow/setup/Category$Kind") ∧ (Fld Z Z.heap ku3 "com/example/hedgerow/hedgerow/setup/Category$Kind" "spelling" "Ljava/lang/String;" (.ref su3)) ∧ (Exa Z Z.heap su3 "java/lang/String") ∧ (Fld Z Z.heap su3 "java/lang/String" "coder" "B" (.int 0)) ∧ (Fld Z Z.heap su3 "java/lang/String" "value" "[B" (.ref tu3)) ∧ (Arv Z Z.heap tu3 ktu3 .byte (21 : Int32) [.int 114, .int 111, .int 108, .int 101, .int 45, .int 97, .int 110, .int 100, .int 45, .int 115, .int 117, .int 98, .int 111, .int 114, .int 100, .int 105, .int 110, .int 97, .int 116, .int 101, .int 115] (.int (0 : Int32))) ∧ (Sta Z Z.heap "com/example/hedgerow/hedgerow/setup/Category$Kind" "GROUP" "Lcom/example/hedgerow/hedgerow/setup/Category$Kind;" (.ref ku4)) ∧ (Exa Z Z.heap ku4 "com/example/hedgerow/hedgerow/setup/Category$Kind") ∧ (Fld Z Z.heap ku4 "com/example/hedgerow/hedgerow/setup/Category$Kind" "spelling" "Ljava/lang/String;" (.ref su4)) ∧ (Exa Z Z.heap su4 "java/lang/String") ∧ (Fld Z Z.heap su4 "java/lang/String" "coder" "B" (.int 0)) ∧ (Fld Z Z.heap su4 "java/lang/String" "value" "[B" (.ref tu4)) ∧ (Arv Z Z.heap tu4 ktu4 .byte (5 : Int32) [.int 103, .int 114, .int 111, .int 117, .int 112] (.int (0 : Int32)))
variable {l : Launch} {Z : State} {a0 : Array Value} {zc : Int32} {fmt : Value} {oem : Addr} {vva : Addr} {kvv : ClassId} {ku1 : Addr} {ku2 : Addr} {ku3 : Addr} {ku4 : Addr} {su1 : Addr} {tu1 : Addr} {ktu1 : ClassId} {su2 : Addr} {tu2 : Addr} {ktu2 : ClassId} {su3 : Addr} {tu3 : Addr} {ktu3 : ClassId} {su4 : Addr} {tu4 : Addr} {ktu4 : ClassId}
abbrev MM (_ : GL l Z a0 zc fmt oem vva kvv ku1 ku2 ku3 ku4 su1 tu1 ktu1 su2 tu2 ktu2 su3 tu3 ktu3 su4 tu4 ktu4) (y : MethodName) (b : ByteArray) (m : Nat) (t : Option FieldType) (f c s o : Nat) (as' : Array Value) (h0 : Heap) (n0 : Nat) (ws sf : List Addr) (Po : Option Value → Heap → Vm → Prop) : Prop := Old Z n0 h0 → Met l y b m t [] ⟨f, c, s, o⟩ Z as' h0 n0 ws EL0 false sf Po
section Words
variable (G : GL l Z a0 zc fmt oem vva kvv ku1 ku2 ku3 ku4 su1 tu1 ktu1 su2 tu2 ktu2 su3 tu3 ktu3 su4 tu4 ktu4)
def sg15 := G.2.1
def hzc := G.2.2.1
def hEW := G.2.2.2.1
def sg16 := G.2.2.2.2.1
def hfmt := G.2.2.2.2.2.1
def sg21 := G.2.2.2.2.2.2.1
def sg9 := G.2.2.2.2.2.2.2.1
def F_oem := G.2.2.2.2.2.2.2.2.1
def sg22 := G.2.2.2.2.2.2.2.2.2.1
def sg4 := G.2.2.2.2.2.2.2.2.2.2.1
def sg14 := G.2.2.2.2.2.2.2.2.2.2.2.1
def sg17 := G.2.2.2.2.2.2.2.2.2.2.2.2.1
def sg5 := G.2.2.2.2.2.2.2.2.2.2.2.2.2.1
def F_ku1 := G.2.2.2.2.2.2.2.2.2.2.2.2.2.2.1
def sg10 := G.2.2.2.2.2.2.2.2.2.2.2.2.2.2.2.1
def C_su1 := G.2.2.2.2.2.2.2.2.2.2.2.2.2.2.2.2.1
def F_su1 := G.2.2.2.2.2.2.2.2.2.2.2.2.2.2.2.2.2.1
def sg0 := G.2.2.2.2.2.2.2.2.2.2.2.2.2.2.2.2.2.2.1
def sg18 := G.2.2.2.2.2.2.2.2.2.2.2.2.2.2.2.2.2.2.2.1
def sg6 := G.2.2.2.2.2.2.2.2.2.2.2.2.2.2.2.2.2.2.2.2.1
def F_ku2 := G.2.2.2.2.2.2.2.2.2.2.2.2.2.2.2.2.2.2.2.2.2.1
def sg11 := G.2.2.2.2.2.2.2.2.2.2.2.2.2.2.2.2.2.2.2.2.2.2.1
def C_su2 := G.2.2.2.2.2.2.2.2.2.2.2.2.2.2.2.2.2.2.2.2.2.2.2.1
def F_su2 := G.2.2.2.2.2.2.2.2.2.2.2.2.2.2.2.2.2.2.2.2.2.2.2.2.1
def sg1 := G.2.2.2.2.2.2.2.2.2.2.2.2.2.2.2.2.2.2.2.2.2.2.2.2.2.1
def sg19 := G.2.2.2.2.2.2.2.2.2.2.2.2.2.2.2.2.2.2.2.2.2.2.2.2.2.2.1
def sg7 := G.2.2.2.2.2.2.2.2.2.2.2.2.2.2.2.2.2.2.2.2.2.2.2.2.2.2.2.1
def F_ku3 := G.2.2.2.2.2.2.2.2.2.2.2.2.2.2.2.2.2.2.2.2.2.2.2.2.2.2.2.2.1
def sg12 := G.2.2.2.2.2.2.2.2.2.2.2.2.2.2.2.2.2.2.2.2.2.2.2.2.2.2.2.2.2.1
def C_su3 := G.2.2.2.2.2.2.2.2.2.2.2.2.2.2.2.2.2.2.2.2.2.2.2.2.2.2.2.2.2.2.1
def F_su3 := G.2.2.2.2.2.2.2.2.2.2.2.2.2.2.2.2.2.2.2.2.2.2.2.2.2.2.2.2.2.2.2.1
def sg2 := G.2.2.2.2.2.2.2.2.2.2.2.2.2.2.2.2.2.2.2.2.2.2.2.2.2.2.2.2.2.2.2.2.1
def sg20 := G.2.2.2.2.2.2.2.2.2.2.2.2.2.2.2.2.2.2.2.2.2.2.2.2.2.2.2.2.2.2.2.2.2.1
def sg8 := G.2.2.2.2.2.2.2.2.2.2.2.2.2.2.2.2.2.2.2.2.2.2.2.2.2.2.2.2.2.2.2.2.2.2.1
def F_ku4 := G.2.2.2.2.2.2.2.2.2.2.2.2.2.2.2.2.2.2.2.2.2.2.2.2.2.2.2.2.2.2.2.2.2.2.2.1
def sg13 := G.2.2.2.2.2.2.2.2.2.2.2.2.2.2.2.2.2.2.2.2.2.2.2.2.2.2.2.2.2.2.2.2.2.2.2.2.1
def C_su4 := G.2.2.2.2.2.2.2.2.2.2.2.2.2.2.2.2.2.2.2.2.2.2.2.2.2.2.2.2.2.2.2.2.2.2.2.2.2.1
def F_su4 := G.2.2.2.2.2.2.2.2.2.2.2.2.2.2.2.2.2.2.2.2.2.2.2.2.2.2.2.2.2.2.2.2.2.2.2.2.2.2.1
def sg3 := G.2.2.2.2.2.2.2.2.2.2.2.2.2.2.2.2.2.2.2.2.2.2.2.2.2.2.2.2.2.2.2.2.2.2.2.2.2.2.2
def w0 := G.1 _ (wm (i := 0) rfl)
def w1 := G.1 _ (wm (i := 1) rfl)
def w2 := G.1 _ (wm (i := 2) rfl)
def w3 := G.1 _ (wm (i := 3) rfl)
def w4 := G.1 _ (wm (i := 4) rfl)
def w5 := G.1 _ (wm (i := 5) rfl)
def w8 := G.1 _ (wm (i := 8) rfl)
def w9 := G.1 _ (wm (i := 9) rfl)
def w10 := G.1 _ (wm (i := 10) rfl)
def w11 := G.1 _ (wm (i := 11) rfl)
def w12 := G.1 _ (wm (i := 12) rfl)
def w13 := G.1 _ (wm (i := 13) rfl)
def w14 := G.1 _ (wm (i := 14) rfl)
def w15 := G.1 _ (wm (i := 15) rfl)
def w16 := G.1 _ (wm (i := 16) rfl)
def w17 := G.1 _ (wm (i := 17) rfl)
def w18 := G.1 _ (wm (i := 18) rfl)
def w19 := G.1 _ (wm (i := 19) rfl)
def w20 := G.1 _ (wm (i := 20) rfl)
def w21 := G.1 _ (wm (i := 21) rfl)
def w22 := G.1 _ (wm (i := 22) rfl)
def w23 := G.1 _ (wm (i := 23) rfl)
def w24 := G.1 _ (wm (i := 24) rfl)
def w25 := G.1 _ (wm (i := 25) rfl)
def w26 := G.1 _ (wm (i := 26) rfl)
def w27 := G.1 _ (wm (i := 27) rfl)
def w28 := G.1 _ (wm (i := 28) rfl)
def w29 := G.1 _ (wm (i := 29) rfl)
def w30 := G.1 _ (wm (i := 30) rfl)
def w31 := G.1 _ (wm (i := 31) rfl)
def w32 := G.1 _ (wm (i := 32) rfl)
def w33 := G.1 _ (wm (i := 33) rfl)
def w34 := G.1 _ (wm (i := 34) rfl)
def w35 := G.1 _ (wm (i := 35) rfl)
def w36 := G.1 _ (wm (i := 36) rfl)
def w37 := G.1 _ (wm (i := 37) rfl)
def w38 := G.1 _ (wm (i := 38) rfl)
def w39 := G.1 _ (wm (i := 39) rfl)
def w40 := G.1 _ (wm (i := 40) rfl)
def w41 := G.1 _ (wm (i := 41) rfl)
def w42 := G.1 _ (wm (i := 42) rfl)
def w43 := G.1 _ (wm (i := 43) rfl)
def w44 := G.1 _ (wm (i := 44) rfl)
def w45 := G.1 _ (wm (i := 45) rfl)
def w46 := G.1 _ (wm (i := 46) rfl)
def w47 := G.1 _ (wm (i := 47) rfl)
def w48 := G.1 _ (wm (i := 48) rfl)
def w49 := G.1 _ (wm (i := 49) rfl)
def w50 := G.1 _ (wm (i := 50) rfl)
def w51 := G.1 _ (wm (i := 51) rfl)
def w52 := G.1 _ (wm (i := 52) rfl)
def w53 := G.1 _ (wm (i := 53) rfl)
def w54 := G.1 _ (wm (i := 54) rfl)
def w55 := G.1 _ (wm (i := 55) rfl)
def w56 := G.1 _ (wm (i := 56) rfl)
def w57 := G.1 _ (wm (i := 57) rfl)
def w59 := G.1 _ (wm (i := 59) rfl)
def w60 := G.1 _ (wm (i := 60) rfl)
def w61 := G.1 _ (wm (i := 61) rfl)
def w62 := G.1 _ (wm (i := 62) rfl)
def w63 := G.1 _ (wm (i := 63) rfl)
def w64 := G.1 _ (wm (i := 64) rfl)
def w65 := G.1 _ (wm (i := 65) rfl)
def w66 := G.1 _ (wm (i := 66) rfl)
def w67 := G.1 _ (wm (i := 67) rfl)
def w68 := G.1 _ (wm (i := 68) rfl)
def w69 := G.1 _ (wm (i := 69) rfl)
def w70 := G.1 _ (wm (i := 70) rfl)
def w71 := G.1 _ (wm (i := 71) rfl)
def w72 := G.1 _ (wm (i := 72) rfl)
def w73 := G.1 _ (wm (i := 73) rfl)
def w74 := G.1 _ (wm (i := 74) rfl)
def w75 := G.1 _ (wm (i := 75) rfl)
def w76 := G.1 _ (wm (i := 76) rfl)
def w77 := G.1 _ (wm (i := 77) rfl)
def w78 := G.1 _ (wm (i := 78) rfl)
def w79 := G.1 _ (wm (i := 79) rfl)
def w80 := G.1 _ (wm (i := 80) rfl)
def w81 := G.1 _ (wm (i := 81) rfl)
def w82 := G.1 _ (wm (i := 82) rfl)
def w83 := G.1 _ (wm (i := 83) rfl)
def w84 := G.1 _ (wm (i := 84) rfl)
def w85 := G.1 _ (wm (i := 85) rfl)
def w86 := G.1 _ (wm (i := 86) rfl)
def w87 := G.1 _ (wm (i := 87) rfl)
def w88 := G.1 _ (wm (i := 88) rfl)
def w89 := G.1 _ (wm (i := 89) rfl)
def w90 := G.1 _ (wm (i := 90) rfl)
def w91 := G.1 _ (wm (i := 91) rfl)
def w92 := G.1 _ (wm (i := 92) rfl)
def w93 := G.1 _ (wm (i := 93) rfl)
def w94 := G.1 _ (wm (i := 94) rfl)
def w95 := G.1 _ (wm (i := 95) rfl)
def w97 := G.1 _ (wm (i := 97) rfl)
def w98 := G.1 _ (wm (i := 98) rfl)
def w100 := G.1 _ (wm (i := 100) rfl)
def w101 := G.1 _ (wm (i := 101) rfl)
def w102 := G.1 _ (wm (i := 102) rfl)
def w103 := G.1 _ (wm (i := 103) rfl)
def w109 := G.1 _ (wm (i := 109) rfl)
def w111 := G.1 _ (wm (i := 111) rfl)
def w113 := G.1 _ (wm (i := 113) rfl)
def w114 := G.1 _ (wm (i := 114) rfl)
def w115 := G.1 _ (wm (i := 115) rfl)
def w116 := G.1 _ (wm (i := 116) rfl)
def w117 := G.1 _ (wm (i := 117) rfl)
def w118 := G.1 _ (wm (i := 118) rfl)
def w119 := G.1 _ (wm (i := 119) rfl)
def w120 := G.1 _ (wm (i := 120) rfl)
def w121 := G.1 _ (wm (i := 121) rfl)
def w122 := G.1 _ (wm (i := 122) rfl)
def w123 := G.1 _ (wm (i := 123) rfl)
def w124 := G.1 _ (wm (i := 124) rfl)
def w125 := G.1 _ (wm (i := 125) rfl)
def w126 := G.1 _ (wm (i := 126) rfl)
def w127 := G.1 _ (wm (i := 127) rfl)
def w128 := G.1 _ (wm (i := 128) rfl)
def w129 := G.1 _ (wm (i := 129) rfl)
def w130 := G.1 _ (wm (i := 130) rfl)
def w131 := G.1 _ (wm (i := 131) rfl)
def w132 := G.1 _ (wm (i := 132) rfl)
def w133 := G.1 _ (wm (i := 133) rfl)
def w134 := G.1 _ (wm (i := 134) rfl)
def w135 := G.1 _ (wm (i := 135) rfl)
def w136 := G.1 _ (wm (i := 136) rfl)
def w137 := G.1 _ (wm (i := 137) rfl)
def w139 := G.1 _ (wm (i := 139) rfl)
def w140 := G.1 _ (wm (i := 140) rfl)
def w141 := G.1 _ (wm (i := 141) rfl)
def w143 := G.1 _ (wm (i := 143) rfl)
def w144 := G.1 _ (wm (i := 144) rfl)
def w145 := G.1 _ (wm (i := 145) rfl)
def w146 := G.1 _ (wm (i := 146) rfl)
theorem ef0 {x0 : Addr} {x1 : Int32} (m : MethodId) : entryFrame m #[(.ref x0), (.int x1)] 2 = mkF m 0 #[.val (.ref x0), .val (.int x1)] [] := by simp [entryFrame, mkF, argsToLocals, Value.category, maxLocals]
theorem pn_java_lang_StringLatin1 : plainName "java/lang/StringLatin1" = true := by first | decide +kernel | (simp [plainName, overriddenIn]; done)
abbrev y0 : MethodName := ⟨"java/lang/StringLatin1", "charAt", "([BI)C"⟩
theorem B0 : BI y0 "java/lang/StringLatin1" "charAt" := ⟨(plainFor_of_name pn_java_lang_StringLatin1), rfl, rfl⟩
abbrev c0 := jdk_43_method_2_code
theorem d0_0 : DC c0 0 (.iload_n 1) 1 := by decide +kernel
theorem d0_1 : DC c0 1 (.aload_n 0) 1 := by decide +kernel
theorem d0_2 : DC c0 2 .arraylength 1 := by decide +kernel
theorem d0_3 : DC c0 3 (.invokestatic 9) 3 := by decide +kernel
theorem ef1 {x0 : Int32} {x1 : Int32} (m : MethodId) : entryFrame m #[(.int x0), (.int x1)] 2 = mkF m 0 #[.val (.int x0), .val (.int x1)] [] := by simp [entryFrame, mkF, argsToLocals, Value.category, maxLocals]
theorem pn_java_lang_String : plainName "java/lang/String" = true := by first | decide +kernel | (simp [plainName, overriddenIn]; done)
abbrev y1 : MethodName := ⟨"java/lang/String", "checkIndex", "(II)V"⟩
theorem B1 : BI y1 "java/lang/String" "checkIndex" := ⟨(plainFor_of_name pn_java_lang_String), rfl, rfl⟩
abbrev c1 := jdk_42_method_155_code
theorem d1_0 : DC c1 0 (.iload_n 0) 1 := by decide +kernel
theorem d1_1 : DC c1 1 (.iload_n 1) 1 := by decide +kernel
theorem d1_2 : DC c1 2 (.getstatic 1053) 3 := by decide +kernel
theorem d1_5 : DC c1 5 (.invokestatic 1059) 3 := by decide +kernel
theorem ef2 {x0 : Int32} {x1 : Int32} {x2 : Value} (r2 : x2.isRef = true) (m : MethodId) : entryFrame m #[(.int x0), (.int x1), x2] 3 = mkF m 0 #[.val (.int x0), .val (.int x1), .val x2] [] := by
  rcases ref_cases r2 with rfl | ⟨q2, rfl⟩ <;> first | rfl | (simp [entryFrame, mkF, argsToLocals, Value.category, maxLocals]; done)
theorem pn_jdk_internal_util_Preconditions : plainName "jdk/internal/util/Preconditions" = true := by first | decide +kernel | (simp [plainName, overriddenIn]; done)
abbrev y2 : MethodName := ⟨"jdk/internal/util/Preconditions", "checkIndex", "(IILjava/util/function/BiFunction;)I"⟩
theorem B2 : BI y2 "jdk/internal/util/Preconditions" "checkIndex" := ⟨(plainFor_of_name pn_jdk_internal_util_Preconditions), rfl, rfl⟩
abbrev c2 := jdk_41_method_11_code
theorem d2_0 : DC c2 0 (.iload_n 0) 1 := by decide +kernel
theorem d2_1 : DC c2 1 (.ifCond .lt 8) 3 := by decide +kernel
theorem d2_4 : DC c2 4 (.iload_n 0) 1 := by decide +kernel
theorem d2_5 : DC c2 5 (.iload_n 1) 1 := by decide +kernel
theorem d2_6 : DC c2 6 (.if_icmp .lt 10) 3 := by decide +kernel
theorem d2_16 : DC c2 16 (.iload_n 0) 1 := by decide +kernel
theorem d2_17 : DC c2 17 .ireturn 1 := by decide +kernel
abbrev M2 := MM G y2 c2 3 (some .int)
theorem pd_0 : parseMethodDescriptor "(IILjava/util/function/BiFunction;)I" = some ⟨[.int, .int, (.object "java/util/function/BiFunction")], (some .int)⟩ := by decide +kernel
def u0 : WS_static Z a0 "java/lang/String" 1059 y2 c2 3 (some .int) 3 := ⟨(w46 G), (w47 G), (w45 G), (w48 G), by decide +kernel, lenN pd_0 rfl⟩
theorem d1_8 : DC c1 8 .pop 1 := by decide +kernel
theorem d1_9 : DC c1 9 .return_ 1 := by decide +kernel
abbrev M1 := MM G y1 c1 2 none
theorem pd_1 : parseMethodDescriptor "(II)V" = some ⟨[.int, .int], none⟩ := by decide +kernel
def u1 : WS_static Z a0 "java/lang/StringLatin1" 9 y1 c1 2 none 2 := ⟨(w41 G), (w42 G), (w1 G), (w43 G), by decide +kernel, lenN pd_1 rfl⟩
theorem d0_6 : DC c0 6 (.aload_n 0) 1 := by decide +kernel
theorem d0_7 : DC c0 7 (.iload_n 1) 1 := by decide +kernel
theorem d0_8 : DC c0 8 .baload 1 := by decide +kernel
theorem d0_9 : DC c0 9 (.sipush 255) 3 := by decide +kernel
theorem d0_12 : DC c0 12 .iand 1 := by decide +kernel
theorem d0_13 : DC c0 13 .i2c 1 := by decide +kernel
theorem d0_14 : DC c0 14 .ireturn 1 := by decide +kernel
abbrev M0 := MM G y0 c0 2 (some .char)
abbrev y3 : MethodName := ⟨"java/lang/String", "charAt", "(I)C"⟩
theorem B3 : BI y3 "java/lang/String" "charAt" := ⟨(plainFor_of_name pn_java_lang_String), rfl, rfl⟩
abbrev c3 := jdk_42_method_56_code
theorem d3_0 : DC c3 0 (.aload_n 0) 1 := by decide +kernel
theorem d3_1 : DC c3 1 (.invokevirtual 492) 3 := by decide +kernel
theorem ef3 {x0 : Addr} (m : MethodId) : entryFrame m #[(.ref x0)] 1 = mkF m 0 #[.val (.ref x0)] [] := by simp [entryFrame, mkF, argsToLocals, Value.category, maxLocals]
abbrev y4 : MethodName := ⟨"java/lang/String", "isLatin1", "()Z"⟩
theorem B4 : BI y4 "java/lang/String" "isLatin1" := ⟨(plainFor_of_name pn_java_lang_String), rfl, rfl⟩
abbrev c4 := jdk_42_method_154_code
theorem d4_0 : DC c4 0 (.getstatic 38) 3 := by decide +kernel
theorem d4_3 : DC c4 3 (.ifCond .eq 14) 3 := by decide +kernel
theorem d4_6 : DC c4 6 (.aload_n 0) 1 := by decide +kernel
theorem d4_7 : DC c4 7 (.getfield 15) 3 := by decide +kernel
theorem d4_10 : DC c4 10 (.ifCond .ne 7) 3 := by decide +kernel
theorem d4_13 : DC c4 13 (.iconst 1) 1 := by decide +kernel
theorem d4_14 : DC c4 14 (.goto 4) 3 := by decide +kernel
theorem d4_18 : DC c4 18 .ireturn 1 := by decide +kernel
abbrev M4 := MM G y4 c4 1 (some .boolean)
theorem pd_2 : parseMethodDescriptor "()Z" = some ⟨[], (some .boolean)⟩ := by decide +kernel
def u2 : WS_virtual Z a0 "java/lang/String" 492 "java/lang/String" y4 y4 c4 1 (some .boolean) 0 := ⟨(w36 G), (w1 G), (w32 G), (w33 G), (w35 G), (w34 G), (nf_sel (w35 G)), by decide +kernel, lenN pd_2 rfl⟩
theorem d3_4 : DC c3 4 (.ifCond .eq 12) 3 := by decide +kernel
theorem d3_7 : DC c3 7 (.aload_n 0) 1 := by decide +kernel
theorem d3_8 : DC c3 8 (.getfield 9) 3 := by decide +kernel
theorem d3_11 : DC c3 11 (.iload_n 1) 1 := by decide +kernel
theorem d3_12 : DC c3 12 (.invokestatic 495) 3 := by decide +kernel
theorem pd_3 : parseMethodDescriptor "([BI)C" = some ⟨[(.array .byte), .int], (some .char)⟩ := by decide +kernel
def u3 : WS_static Z a0 "java/lang/String" 495 y0 c0 2 (some .char) 2 := ⟨(w37 G), (w38 G), (w39 G), (w40 G), by decide +kernel, lenN pd_3 rfl⟩
theorem d3_15 : DC c3 15 .ireturn 1 := by decide +kernel
abbrev M3 := MM G y3 c3 2 (some .char)
theorem ef4 {x0 : Addr} {x1 : Int32} {x2 : Int32} {x3 : Int32} {x4 : Int32} {x5 : Int32} (m : MethodId) : entryFrame m #[(.ref x0), (.int x1), (.int x2), (.int x3), (.int x4), (.int x5)] 6 = mkF m 0 #[.val (.ref x0), .val (.int x1), .val (.int x2), .val (.int x3), .val (.int x4), .val (.int x5)] [] := by simp [entryFrame, mkF, argsToLocals, Value.category, maxLocals]
theorem pn_com_example_hedgerow_hedgerow_setup_KindSpeltPinLaw : plainName "com/example/hedgerow/hedgerow/setup/KindSpeltPinLaw" = true := by first | decide +kernel | (simp [plainName, overriddenIn]; done)
abbrev y5 : MethodName := ⟨"com/example/hedgerow/hedgerow/setup/KindSpeltPinLaw", "ch", "(Ljava/lang/String;IIIIZ)C"⟩
theorem B5 : BI y5 "com/example/hedgerow/hedgerow/setup/KindSpeltPinLaw" "ch" := ⟨(plainFor_of_name pn_com_example_hedgerow_hedgerow_setup_KindSpeltPinLaw), rfl, rfl⟩
abbrev c5 := method_3_code
theorem d5_0 : DC c5 0 (.iload 5) 2 := by decide +kernel
theorem d5_2 : DC c5 2 (.ifCond .eq 15) 3 := by decide +kernel
theorem d5_17 : DC c5 17 (.iload_n 1) 1 := by decide +kernel
theorem d5_18 : DC c5 18 (.aload_n 0) 1 := by decide +kernel
theorem d5_19 : DC c5 19 (.invokevirtual 42) 3 := by decide +kernel
abbrev y6 : MethodName := ⟨"java/lang/String", "length", "()I"⟩
theorem B6 : BI y6 "java/lang/String" "length" := ⟨(plainFor_of_name pn_java_lang_String), rfl, rfl⟩
abbrev c6 := jdk_42_method_54_code
theorem d6_0 : DC c6 0 (.aload_n 0) 1 := by decide +kernel
theorem d6_1 : DC c6 1 (.getfield 9) 3 := by decide +kernel
theorem d6_4 : DC c6 4 .arraylength 1 := by decide +kernel
theorem d6_5 : DC c6 5 (.aload_n 0) 1 := by decide +kernel
theorem d6_6 : DC c6 6 (.invokevirtual 335) 3 := by decide +kernel
abbrev y7 : MethodName := ⟨"java/lang/String", "coder", "()B"⟩
theorem B7 : BI y7 "java/lang/String" "coder" := ⟨(plainFor_of_name pn_java_lang_String), rfl, rfl⟩
abbrev c7 := jdk_42_method_152_code
theorem d7_0 : DC c7 0 (.getstatic 38) 3 := by decide +kernel
theorem d7_3 : DC c7 3 (.ifCond .eq 10) 3 := by decide +kernel
theorem d7_6 : DC c7 6 (.aload_n 0) 1 := by decide +kernel
theorem d7_7 : DC c7 7 (.getfield 15) 3 := by decide +kernel
theorem d7_10 : DC c7 10 (.goto 4) 3 := by decide +kernel
theorem d7_14 : DC c7 14 .ireturn 1 := by decide +kernel
abbrev M7 := MM G y7 c7 1 (some .byte)
theorem pd_4 : parseMethodDescriptor "()B" = some ⟨[], (some .byte)⟩ := by decide +kernel
def u4 : WS_virtual Z a0 "java/lang/String" 335 "java/lang/String" y7 y7 c7 1 (some .byte) 0 := ⟨(w24 G), (w1 G), (w20 G), (w21 G), (w23 G), (w22 G), (nf_sel (w23 G)), by decide +kernel, lenN pd_4 rfl⟩
theorem d6_9 : DC c6 9 .ishr 1 := by decide +kernel
theorem d6_10 : DC c6 10 .ireturn 1 := by decide +kernel
abbrev M6 := MM G y6 c6 1 (some .int)
theorem pd_5 : parseMethodDescriptor "()I" = some ⟨[], (some .int)⟩ := by decide +kernel
def u5 : WS_virtual Z a0 "com/example/hedgerow/hedgerow/setup/KindSpeltPinLaw" 42 "java/lang/String" y6 y6 c6 1 (some .int) 0 := ⟨(w18 G), (w1 G), (w14 G), (w15 G), (w17 G), (w16 G), (nf_sel (w17 G)), by decide +kernel, lenN pd_5 rfl⟩
theorem d5_22 : DC c5 22 (.if_icmp .ge 9) 3 := by decide +kernel
theorem d5_25 : DC c5 25 (.aload_n 0) 1 := by decide +kernel
theorem d5_26 : DC c5 26 (.iload_n 1) 1 := by decide +kernel
theorem d5_27 : DC c5 27 (.invokevirtual 48) 3 := by decide +kernel
theorem pd_6 : parseMethodDescriptor "(I)C" = some ⟨[.int], (some .char)⟩ := by decide +kernel
def u6 : WS_virtual Z a0 "com/example/hedgerow/hedgerow/setup/KindSpeltPinLaw" 48 "java/lang/String" y3 y3 c3 2 (some .char) 1 := ⟨(w31 G), (w1 G), (w27 G), (w28 G), (w30 G), (w29 G), (nf_sel (w30 G)), by decide +kernel, lenN pd_6 rfl⟩
theorem d5_30 : DC c5 30 .ireturn 1 := by decide +kernel
theorem d5_5 : DC c5 5 (.iload_n 1) 1 := by decide +kernel
theorem d5_6 : DC c5 6 (.iload_n 2) 1 := by decide +kernel
theorem d5_7 : DC c5 7 (.if_icmp .ne 10) 3 := by decide +kernel
theorem d5_10 : DC c5 10 (.iload_n 3) 1 := by decide +kernel
theorem d5_11 : DC c5 11 (.sipush 255) 3 := by decide +kernel
theorem d5_14 : DC c5 14 .iand 1 := by decide +kernel
theorem d5_15 : DC c5 15 .i2c 1 := by decide +kernel
theorem d5_16 : DC c5 16 .ireturn 1 := by decide +kernel
abbrev M5 := MM G y5 c5 6 (some .char)
theorem d5_31 : DC c5 31 (.iload 4) 2 := by decide +kernel
theorem d5_33 : DC c5 33 (.sipush 255) 3 := by decide +kernel
theorem d5_36 : DC c5 36 .iand 1 := by decide +kernel
theorem d5_37 : DC c5 37 .i2c 1 := by decide +kernel
theorem d5_38 : DC c5 38 .ireturn 1 := by decide +kernel
theorem ef5 {x0 : Addr} {x1 : Addr} (m : MethodId) : entryFrame m #[(.ref x0), (.ref x1)] 3 = mkF m 0 #[.val (.ref x0), .val (.ref x1), .unset] [] := by simp [entryFrame, mkF, argsToLocals, Value.category, maxLocals]
abbrev y8 : MethodName := ⟨"java/lang/StringLatin1", "equals", "([B[B)Z"⟩
theorem B8 : BI y8 "java/lang/StringLatin1" "equals" := ⟨(plainFor_of_name pn_java_lang_StringLatin1), rfl, rfl⟩
abbrev c8 := jdk_43_method_13_code
theorem d8_0 : DC c8 0 (.aload_n 0) 1 := by decide +kernel
theorem d8_1 : DC c8 1 .arraylength 1 := by decide +kernel
theorem d8_2 : DC c8 2 (.aload_n 1) 1 := by decide +kernel
theorem d8_3 : DC c8 3 .arraylength 1 := by decide +kernel
theorem d8_4 : DC c8 4 (.if_icmp .ne 30) 3 := by decide +kernel
theorem d8_7 : DC c8 7 (.iconst 0) 1 := by decide +kernel
theorem d8_8 : DC c8 8 (.istore_n 2) 1 := by decide +kernel
theorem d8_9 : DC c8 9 (.iload_n 2) 1 := by decide +kernel
theorem d8_10 : DC c8 10 (.aload_n 0) 1 := by decide +kernel
theorem d8_11 : DC c8 11 .arraylength 1 := by decide +kernel
theorem d8_12 : DC c8 12 (.if_icmp .ge 20) 3 := by decide +kernel
theorem d8_15 : DC c8 15 (.aload_n 0) 1 := by decide +kernel
theorem d8_16 : DC c8 16 (.iload_n 2) 1 := by decide +kernel
theorem d8_17 : DC c8 17 .baload 1 := by decide +kernel
theorem d8_18 : DC c8 18 (.aload_n 1) 1 := by decide +kernel
theorem d8_19 : DC c8 19 (.iload_n 2) 1 := by decide +kernel
theorem d8_20 : DC c8 20 .baload 1 := by decide +kernel
theorem d8_21 : DC c8 21 (.if_icmp .eq 5) 3 := by decide +kernel
theorem d8_26 : DC c8 26 (.iinc 2 1) 3 := by decide +kernel
theorem d8_29 : DC c8 29 (.goto (-20)) 3 := by decide +kernel
theorem d8_32 : DC c8 32 (.iconst 1) 1 := by decide +kernel
theorem d8_33 : DC c8 33 .ireturn 1 := by decide +kernel
theorem d8_24 : DC c8 24 (.iconst 0) 1 := by decide +kernel
theorem d8_25 : DC c8 25 .ireturn 1 := by decide +kernel
abbrev M8 := MM G y8 c8 3 (some .boolean)
theorem ef6 {x0 : Int32} {x1 : Int32} {x2 : Int32} {x3 : Int32} {x4 : Int32} (m : MethodId) : entryFrame m #[(.int x0), (.int x1), (.int x2), (.int x3), (.int x4)] maxLocals = mkF m 0 #[.val (.int x0), .val (.int x1), .val (.int x2), .val (.int x3), .val (.int x4), .unset, .unset, .unset, .unset, .unset, .unset, .unset, .unset] [] := by simp [entryFrame, mkF, argsToLocals, Value.category, maxLocals]
theorem B9 : BI x "com/example/hedgerow/hedgerow/setup/KindSpeltPinLaw" "law" := ⟨(plainFor_of_name pn_com_example_hedgerow_hedgerow_setup_KindSpeltPinLaw), rfl, rfl⟩
theorem pd_7 : parseMethodDescriptor "(Ljava/lang/String;IIIIZ)C" = some ⟨[(.object "java/lang/String"), .int, .int, .int, .int, .boolean], (some .char)⟩ := by decide +kernel
def u7 : WS_static Z a0 "com/example/hedgerow/hedgerow/setup/KindSpeltPinLaw" 16 y5 c5 6 (some .char) 6 := ⟨(w10 G), (w11 G), (w12 G), (w13 G), by decide +kernel, lenN pd_7 rfl⟩
theorem nc0 : "[C" ≠ "java/lang/String" ∧ "[C" ≠ "[B" := by decide +kernel
abbrev y9 : MethodName := ⟨"com/example/hedgerow/hedgerow/setup/KindSpeltPinLaw", "make", "([CI)Ljava/lang/String;"⟩
theorem B10 : BI y9 "com/example/hedgerow/hedgerow/setup/KindSpeltPinLaw" "make" := ⟨(plainFor_of_name pn_com_example_hedgerow_hedgerow_setup_KindSpeltPinLaw), rfl, rfl⟩
abbrev c10 := method_4_code
theorem d10_0 : DC c10 0 (.iload_n 1) 1 := by decide +kernel
theorem d10_1 : DC c10 1 (.ifCond .ne 6) 3 := by decide +kernel
theorem d10_4 : DC c10 4 (.ldc 52) 2 := by decide +kernel
theorem d10_6 : DC c10 6 .areturn 1 := by decide +kernel
abbrev M10 := MM G y9 c10 2 (some (.object "java/lang/String"))
theorem pd_8 : parseMethodDescriptor "([CI)Ljava/lang/String;" = some ⟨[(.array .char), .int], (some (.object "java/lang/String"))⟩ := by decide +kernel
def u8 : WS_static Z a0 "com/example/hedgerow/hedgerow/setup/KindSpeltPinLaw" 22 y9 c10 2 (some (.object "java/lang/String")) 2 := ⟨(w49 G), (w50 G), (w12 G), (w51 G), by decide +kernel, lenN pd_8 rfl⟩
abbrev y10 : MethodName := ⟨"com/example/hedgerow/hedgerow/setup/KindSpeltPinLaw", "reference", "(Ljava/lang/String;)Lcom/example/hedgerow/hedgerow/setup/Category$Kind;"⟩
theorem B11 : BI y10 "com/example/hedgerow/hedgerow/setup/KindSpeltPinLaw" "reference" := ⟨(plainFor_of_name pn_com_example_hedgerow_hedgerow_setup_KindSpeltPinLaw), rfl, rfl⟩
abbrev c11 := method_5_code
theorem d11_0 : DC c11 0 (.aload_n 0) 1 := by decide +kernel
theorem d11_1 : DC c11 1 (.ldc 7) 2 := by decide +kernel
theorem d11_3 : DC c11 3 (.invokevirtual 57) 3 := by decide +kernel
abbrev y11 : MethodName := ⟨"java/lang/String", "equals", "(Ljava/lang/Object;)Z"⟩
theorem B12 : BI y11 "java/lang/String" "equals" := ⟨(plainFor_of_name pn_java_lang_String), rfl, rfl⟩
abbrev c12 := jdk_42_method_66_code
theorem d12_0 : DC c12 0 (.aload_n 0) 1 := by decide +kernel
theorem d12_1 : DC c12 1 (.aload_n 1) 1 := by decide +kernel
theorem d12_2 : DC c12 2 (.if_acmp .ne 5) 3 := by decide +kernel
theorem d12_7 : DC c12 7 (.aload_n 1) 1 := by decide +kernel
theorem d12_8 : DC c12 8 (.instanceof 10) 3 := by decide +kernel
theorem d12_11 : DC c12 11 (.ifCond .eq 43) 3 := by decide +kernel
theorem d12_14 : DC c12 14 (.aload_n 1) 1 := by decide +kernel
theorem d12_15 : DC c12 15 (.checkcast 10) 3 := by decide +kernel
theorem d12_18 : DC c12 18 (.astore_n 2) 1 := by decide +kernel
theorem d12_19 : DC c12 19 (.getstatic 38) 3 := by decide +kernel
theorem d12_22 : DC c12 22 (.ifCond .eq 14) 3 := by decide +kernel
theorem d12_25 : DC c12 25 (.aload_n 0) 1 := by decide +kernel
theorem d12_26 : DC c12 26 (.getfield 15) 3 := by decide +kernel
theorem d12_29 : DC c12 29 (.aload_n 2) 1 := by decide +kernel
theorem d12_30 : DC c12 30 (.getfield 15) 3 := by decide +kernel
theorem d12_33 : DC c12 33 (.if_icmp .ne 21) 3 := by decide +kernel
theorem d12_36 : DC c12 36 (.aload_n 0) 1 := by decide +kernel
theorem d12_37 : DC c12 37 (.getfield 9) 3 := by decide +kernel
theorem d12_40 : DC c12 40 (.aload_n 2) 1 := by decide +kernel
theorem d12_41 : DC c12 41 (.getfield 9) 3 := by decide +kernel
theorem d12_44 : DC c12 44 (.invokestatic 541) 3 := by decide +kernel
theorem d8_34 : DC c8 34 (.iconst 0) 1 := by decide +kernel
theorem d8_35 : DC c8 35 .ireturn 1 := by decide +kernel
theorem pd_9 : parseMethodDescriptor "([B[B)Z" = some ⟨[(.array .byte), (.array .byte)], (some .boolean)⟩ := by decide +kernel
def u9 : WS_static Z a0 "java/lang/String" 541 y8 c8 3 (some .boolean) 2 := ⟨(w82 G), (w83 G), (w39 G), (w84 G), by decide +kernel, lenN pd_9 rfl⟩
theorem d12_47 : DC c12 47 (.ifCond .eq 7) 3 := by decide +kernel
theorem d12_54 : DC c12 54 (.iconst 0) 1 := by decide +kernel
theorem d12_55 : DC c12 55 .ireturn 1 := by decide +kernel
abbrev M12 := MM G y11 c12 3 (some .boolean)
theorem pd_10 : parseMethodDescriptor "(Ljava/lang/Object;)Z" = some ⟨[(.object "java/lang/Object")], (some .boolean)⟩ := by decide +kernel
def u10 : WS_virtual Z a0 "com/example/hedgerow/hedgerow/setup/KindSpeltPinLaw" 57 "java/lang/String" y11 y11 c12 3 (some .boolean) 1 := ⟨(w80 G), (w1 G), (w76 G), (w77 G), (w79 G), (w78 G), (nf_sel (w79 G)), by decide +kernel, lenN pd_10 rfl⟩
theorem d11_6 : DC c11 6 (.ifCond .eq 7) 3 := by decide +kernel
theorem d11_13 : DC c11 13 (.aload_n 0) 1 := by decide +kernel
theorem d11_14 : DC c11 14 (.ldc 9) 2 := by decide +kernel
theorem d11_16 : DC c11 16 (.invokevirtual 57) 3 := by decide +kernel
theorem d11_19 : DC c11 19 (.ifCond .eq 7) 3 := by decide +kernel
theorem d11_26 : DC c11 26 (.aload_n 0) 1 := by decide +kernel
theorem d11_27 : DC c11 27 (.ldc 11) 2 := by decide +kernel
theorem d11_29 : DC c11 29 (.invokevirtual 57) 3 := by decide +kernel
theorem d11_32 : DC c11 32 (.ifCond .eq 7) 3 := by decide +kernel
theorem d11_39 : DC c11 39 (.aload_n 0) 1 := by decide +kernel
theorem d11_40 : DC c11 40 (.ldc 13) 2 := by decide +kernel
theorem d11_42 : DC c11 42 (.invokevirtual 57) 3 := by decide +kernel
theorem d11_45 : DC c11 45 (.ifCond .eq 7) 3 := by decide +kernel
theorem d11_52 : DC c11 52 .aconst_null 1 := by decide +kernel
theorem d11_53 : DC c11 53 .areturn 1 := by decide +kernel
abbrev M11 := MM G y10 c11 1 (some (.object "com/example/hedgerow/hedgerow/setup/Category$Kind"))
theorem pd_11 : parseMethodDescriptor "(Ljava/lang/String;)Lcom/example/hedgerow/hedgerow/setup/Category$Kind;" = some ⟨[(.object "java/lang/String")], (some (.object "com/example/hedgerow/hedgerow/setup/Category$Kind"))⟩ := by decide +kernel
def u11 : WS_static Z a0 "com/example/hedgerow/hedgerow/setup/KindSpeltPinLaw" 26 y10 c11 1 (some (.object "com/example/hedgerow/hedgerow/setup/Category$Kind")) 1 := ⟨(w73 G), (w74 G), (w12 G), (w75 G), by decide +kernel, lenN pd_11 rfl⟩
theorem ef7 {x0 : Addr} (m : MethodId) : entryFrame m #[(.ref x0)] 5 = mkF m 0 #[.val (.ref x0), .unset, .unset, .unset, .unset] [] := by simp [entryFrame, mkF, argsToLocals, Value.category, maxLocals]
theorem pn_com_example_hedgerow_hedgerow_setup_Category_Kind : plainName "com/example/hedgerow/hedgerow/setup/Category$Kind" = true := by first | decide +kernel | (simp [plainName, overriddenIn]; done)
abbrev y12 : MethodName := ⟨"com/example/hedgerow/hedgerow/setup/Category$Kind", "spelt", "(Ljava/lang/String;)Ljava/util/Optional;"⟩
theorem B13 : BI y12 "com/example/hedgerow/hedgerow/setup/Category$Kind" "spelt" := ⟨(plainFor_of_name pn_com_example_hedgerow_hedgerow_setup_Category_Kind), rfl, rfl⟩
abbrev c13 := prog_15_method_4_code
theorem d13_0 : DC c13 0 (.invokestatic 45) 3 := by decide +kernel
theorem ef8 (m : MethodId) : entryFrame m #[] 0 = mkF m 0 #[] [] := by simp [entryFrame, mkF, argsToLocals, Value.category, maxLocals]
abbrev y13 : MethodName := ⟨"com/example/hedgerow/hedgerow/setup/Category$Kind", "values", "()[Lcom/example/hedgerow/hedgerow/setup/Category$Kind;"⟩
theorem B14 : BI y13 "com/example/hedgerow/hedgerow/setup/Category$Kind" "values" := ⟨(plainFor_of_name pn_com_example_hedgerow_hedgerow_setup_Category_Kind), rfl, rfl⟩
abbrev c14 := prog_15_method_1_code
theorem d14_0 : DC c14 0 (.getstatic 16) 3 := by decide +kernel
theorem d14_3 : DC c14 3 (.invokevirtual 20) 3 := by decide +kernel
theorem d14_6 : DC c14 6 (.checkcast 21) 3 := by decide +kernel
theorem d14_9 : DC c14 9 .areturn 1 := by decide +kernel
abbrev M14 := MM G y13 c14 0 (some (.array (.object "com/example/hedgerow/hedgerow/setup/Category$Kind")))
theorem pd_12 : parseMethodDescriptor "()[Lcom/example/hedgerow/hedgerow/setup/Category$Kind;" = some ⟨[], (some (.array (.object "com/example/hedgerow/hedgerow/setup/Category$Kind")))⟩ := by decide +kernel
def u12 : WS_static Z a0 "com/example/hedgerow/hedgerow/setup/Category$Kind" 45 y13 c14 0 (some (.array (.object "com/example/hedgerow/hedgerow/setup/Category$Kind"))) 0 := ⟨(w92 G), (w93 G), (w90 G), (w94 G), by decide +kernel, lenN pd_12 rfl⟩
theorem d13_3 : DC c13 3 (.astore_n 1) 1 := by decide +kernel
theorem d13_4 : DC c13 4 (.aload_n 1) 1 := by decide +kernel
theorem d13_5 : DC c13 5 .arraylength 1 := by decide +kernel
theorem d13_6 : DC c13 6 (.istore_n 2) 1 := by decide +kernel
theorem d13_7 : DC c13 7 (.iconst 0) 1 := by decide +kernel
theorem d13_8 : DC c13 8 (.istore_n 3) 1 := by decide +kernel
theorem d13_9 : DC c13 9 (.iload_n 3) 1 := by decide +kernel
theorem d13_10 : DC c13 10 (.iload_n 2) 1 := by decide +kernel
theorem d13_11 : DC c13 11 (.if_icmp .ge 32) 3 := by decide +kernel
theorem d13_14 : DC c13 14 (.aload_n 1) 1 := by decide +kernel
theorem d13_15 : DC c13 15 (.iload_n 3) 1 := by decide +kernel
theorem d13_16 : DC c13 16 .aaload 1 := by decide +kernel
theorem d13_17 : DC c13 17 (.astore 4) 2 := by decide +kernel
theorem d13_19 : DC c13 19 (.aload 4) 2 := by decide +kernel
theorem d13_21 : DC c13 21 (.getfield 39) 3 := by decide +kernel
theorem d13_24 : DC c13 24 (.aload_n 0) 1 := by decide +kernel
theorem d13_25 : DC c13 25 (.invokevirtual 49) 3 := by decide +kernel
def u13 : WS_virtual Z a0 "com/example/hedgerow/hedgerow/setup/Category$Kind" 49 "java/lang/String" y11 y11 c12 3 (some .boolean) 1 := ⟨(w80 G), (w1 G), (w113 G), (w77 G), (w79 G), (w78 G), (nf_sel (w79 G)), by decide +kernel, lenN pd_10 rfl⟩
theorem d13_28 : DC c13 28 (.ifCond .eq 9) 3 := by decide +kernel
theorem d13_37 : DC c13 37 (.iinc 3 1) 3 := by decide +kernel
theorem d13_40 : DC c13 40 (.goto (-31)) 3 := by decide +kernel
theorem d13_43 : DC c13 43 (.invokestatic 61) 3 := by decide +kernel
theorem ef9 (m : MethodId) : entryFrame m #[] 1 = mkF m 0 #[.unset] [] := by simp [entryFrame, mkF, argsToLocals, Value.category, maxLocals]
theorem pn_java_util_Optional : plainName "java/util/Optional" = true := by first | decide +kernel | (simp [plainName, overriddenIn]; done)
abbrev y14 : MethodName := ⟨"java/util/Optional", "empty", "()Ljava/util/Optional;"⟩
theorem B15 : BI y14 "java/util/Optional" "empty" := ⟨(plainFor_of_name pn_java_util_Optional), rfl, rfl⟩
abbrev c15 := jdk_32_method_1_code
theorem d15_0 : DC c15 0 (.getstatic 1) 3 := by decide +kernel
theorem d15_3 : DC c15 3 (.astore_n 0) 1 := by decide +kernel
theorem d15_4 : DC c15 4 (.aload_n 0) 1 := by decide +kernel
theorem d15_5 : DC c15 5 .areturn 1 := by decide +kernel
abbrev M15 := MM G y14 c15 1 (some (.object "java/util/Optional"))
theorem pd_13 : parseMethodDescriptor "()Ljava/util/Optional;" = some ⟨[], (some (.object "java/util/Optional"))⟩ := by decide +kernel
def u14 : WS_static Z a0 "com/example/hedgerow/hedgerow/setup/Category$Kind" 61 y14 c15 1 (some (.object "java/util/Optional")) 0 := ⟨(w114 G), (w115 G), (w116 G), (w117 G), by decide +kernel, lenN pd_13 rfl⟩
theorem d13_46 : DC c13 46 .areturn 1 := by decide +kernel
abbrev M13 := MM G y12 c13 5 (some (.object "java/util/Optional"))
theorem pd_14 : parseMethodDescriptor "(Ljava/lang/String;)Ljava/util/Optional;" = some ⟨[(.object "java/lang/String")], (some (.object "java/util/Optional"))⟩ := by decide +kernel
def u15 : WS_static Z a0 "com/example/hedgerow/hedgerow/setup/KindSpeltPinLaw" 30 y12 c13 5 (some (.object "java/util/Optional")) 1 := ⟨(w88 G), (w89 G), (w90 G), (w91 G), by decide +kernel, lenN pd_14 rfl⟩
theorem ef10 {x0 : Addr} (m : MethodId) : entryFrame m #[(.ref x0), .null] 2 = mkF m 0 #[.val (.ref x0), .val .null] [] := by simp [entryFrame, mkF, argsToLocals, Value.category, maxLocals]
abbrev y15 : MethodName := ⟨"java/util/Optional", "orElse", "(Ljava/lang/Object;)Ljava/lang/Object;"⟩
theorem B16 : BI y15 "java/util/Optional" "orElse" := ⟨(plainFor_of_name pn_java_util_Optional), rfl, rfl⟩
abbrev c16 := jdk_32_method_15_code
theorem d16_0 : DC c16 0 (.aload_n 0) 1 := by decide +kernel
theorem d16_1 : DC c16 1 (.getfield 13) 3 := by decide +kernel
theorem d16_4 : DC c16 4 (.ifnull 10) 3 := by decide +kernel
theorem d16_14 : DC c16 14 (.aload_n 1) 1 := by decide +kernel
theorem d16_15 : DC c16 15 .areturn 1 := by decide +kernel
abbrev M16 := MM G y15 c16 2 (some (.object "java/lang/Object"))
theorem pd_15 : parseMethodDescriptor "(Ljava/lang/Object;)Ljava/lang/Object;" = some ⟨[(.object "java/lang/Object")], (some (.object "java/lang/Object"))⟩ := by decide +kernel
def u16 : WS_virtual Z a0 "com/example/hedgerow/hedgerow/setup/KindSpeltPinLaw" 36 "java/util/Optional" y15 y15 c16 2 (some (.object "java/lang/Object")) 1 := ⟨(w123 G), (w116 G), (w119 G), (w120 G), (w122 G), (w121 G), (nf_sel (w122 G)), by decide +kernel, lenN pd_15 rfl⟩
theorem d10_7 : DC c10 7 (.iload_n 1) 1 := by decide +kernel
theorem d10_8 : DC c10 8 (.iconst 1) 1 := by decide +kernel
theorem d10_9 : DC c10 9 (.if_icmp .ne 32) 3 := by decide +kernel
theorem d10_12 : DC c10 12 (.new 43) 3 := by decide +kernel
theorem fd_0 : parseFieldDescriptor "[B" = some (.array .byte) := by decide +kernel
theorem fd_1 : parseFieldDescriptor "B" = some .byte := by decide +kernel
theorem d10_15 : DC c10 15 .dup 1 := by decide +kernel
theorem d10_16 : DC c10 16 (.iconst 3) 1 := by decide +kernel
theorem d10_17 : DC c10 17 (.newarray .char) 2 := by decide +kernel
theorem d10_19 : DC c10 19 .dup 1 := by decide +kernel
theorem d10_20 : DC c10 20 (.iconst 0) 1 := by decide +kernel
theorem d10_21 : DC c10 21 (.aload_n 0) 1 := by decide +kernel
theorem d10_22 : DC c10 22 (.iconst 0) 1 := by decide +kernel
theorem d10_23 : DC c10 23 .caload 1 := by decide +kernel
theorem d10_24 : DC c10 24 .castore 1 := by decide +kernel
theorem d10_25 : DC c10 25 .dup 1 := by decide +kernel
theorem d10_26 : DC c10 26 (.iconst 1) 1 := by decide +kernel
theorem d10_27 : DC c10 27 (.aload_n 0) 1 := by decide +kernel
theorem d10_28 : DC c10 28 (.iconst 1) 1 := by decide +kernel
theorem d10_29 : DC c10 29 .caload 1 := by decide +kernel
theorem d10_30 : DC c10 30 .castore 1 := by decide +kernel
theorem d10_31 : DC c10 31 .dup 1 := by decide +kernel
theorem d10_32 : DC c10 32 (.iconst 2) 1 := by decide +kernel
theorem d10_33 : DC c10 33 (.aload_n 0) 1 := by decide +kernel
theorem d10_34 : DC c10 34 (.iconst 2) 1 := by decide +kernel
theorem d10_35 : DC c10 35 .caload 1 := by decide +kernel
theorem d10_36 : DC c10 36 .castore 1 := by decide +kernel
theorem d10_37 : DC c10 37 (.invokespecial 54) 3 := by decide +kernel
theorem ef11 {x0 : Addr} {x1 : Addr} (m : MethodId) : entryFrame m #[(.ref x0), (.ref x1)] 2 = mkF m 0 #[.val (.ref x0), .val (.ref x1)] [] := by simp [entryFrame, mkF, argsToLocals, Value.category, maxLocals]
abbrev y16 : MethodName := ⟨"java/lang/String", "<init>", "([C)V"⟩
theorem B17 : BI y16 "java/lang/String" "<init>" := ⟨(plainFor_of_name pn_java_lang_String), rfl, rfl⟩
abbrev c17 := jdk_42_method_3_code
theorem d17_0 : DC c17 0 (.aload_n 0) 1 := by decide +kernel
theorem d17_1 : DC c17 1 (.aload_n 1) 1 := by decide +kernel
theorem d17_2 : DC c17 2 (.iconst 0) 1 := by decide +kernel
theorem d17_3 : DC c17 3 (.aload_n 1) 1 := by decide +kernel
theorem d17_4 : DC c17 4 .arraylength 1 := by decide +kernel
theorem d17_5 : DC c17 5 .aconst_null 1 := by decide +kernel
theorem d17_6 : DC c17 6 (.invokespecial 27) 3 := by decide +kernel
theorem ef12 {x0 : Addr} {x1 : Addr} {x2 : Int32} {x3 : Int32} (m : MethodId) : entryFrame m #[(.ref x0), (.ref x1), (.int x2), (.int x3), .null] 6 = mkF m 0 #[.val (.ref x0), .val (.ref x1), .val (.int x2), .val (.int x3), .val .null, .unset] [] := by simp [entryFrame, mkF, argsToLocals, Value.category, maxLocals]
abbrev y17 : MethodName := ⟨"java/lang/String", "<init>", "([CIILjava/lang/Void;)V"⟩
theorem B18 : BI y17 "java/lang/String" "<init>" := ⟨(plainFor_of_name pn_java_lang_String), rfl, rfl⟩
abbrev c18 := jdk_42_method_149_code
theorem d18_0 : DC c18 0 (.aload_n 0) 1 := by decide +kernel
theorem d18_1 : DC c18 1 (.invokespecial 1) 3 := by decide +kernel
theorem d18_4 : DC c18 4 (.iload_n 3) 1 := by decide +kernel
theorem d18_5 : DC c18 5 (.ifCond .ne 22) 3 := by decide +kernel
theorem d18_27 : DC c18 27 (.getstatic 38) 3 := by decide +kernel
theorem d18_30 : DC c18 30 (.ifCond .eq 28) 3 := by decide +kernel
theorem d18_33 : DC c18 33 (.aload_n 1) 1 := by decide +kernel
theorem d18_34 : DC c18 34 (.iload_n 2) 1 := by decide +kernel
theorem d18_35 : DC c18 35 (.iload_n 3) 1 := by decide +kernel
theorem d18_36 : DC c18 36 (.invokestatic 177) 3 := by decide +kernel
theorem ef13 {x0 : Addr} {x1 : Int32} {x2 : Int32} (m : MethodId) : entryFrame m #[(.ref x0), (.int x1), (.int x2)] 6 = mkF m 0 #[.val (.ref x0), .val (.int x1), .val (.int x2), .unset, .unset, .unset] [] := by simp [entryFrame, mkF, argsToLocals, Value.category, maxLocals]
theorem pn_java_lang_StringUTF16 : plainName "java/lang/StringUTF16" = true := by first | decide +kernel | (simp [plainName, overriddenIn]; done)
abbrev y18 : MethodName := ⟨"java/lang/StringUTF16", "compress", "([CII)[B"⟩
theorem B19 : BI y18 "java/lang/StringUTF16" "compress" := ⟨(plainFor_of_name pn_java_lang_StringUTF16), rfl, rfl⟩
abbrev c19 := jdk_52_method_16_code
theorem d19_0 : DC c19 0 (.iload_n 2) 1 := by decide +kernel
theorem d19_1 : DC c19 1 (.newarray .byte) 2 := by decide +kernel
theorem d19_3 : DC c19 3 (.astore_n 3) 1 := by decide +kernel
theorem d19_4 : DC c19 4 (.aload_n 0) 1 := by decide +kernel
theorem d19_5 : DC c19 5 (.iload_n 1) 1 := by decide +kernel
theorem d19_6 : DC c19 6 (.aload_n 3) 1 := by decide +kernel
theorem d19_7 : DC c19 7 (.iconst 0) 1 := by decide +kernel
theorem d19_8 : DC c19 8 (.iload_n 2) 1 := by decide +kernel
theorem d19_9 : DC c19 9 (.invokestatic 115) 3 := by decide +kernel
theorem ef14 {x0 : Addr} {x1 : Int32} {x2 : Addr} {x3 : Int32} {x4 : Int32} (m : MethodId) : entryFrame m #[(.ref x0), (.int x1), (.ref x2), (.int x3), (.int x4)] 7 = mkF m 0 #[.val (.ref x0), .val (.int x1), .val (.ref x2), .val (.int x3), .val (.int x4), .unset, .unset] [] := by simp [entryFrame, mkF, argsToLocals, Value.category, maxLocals]
abbrev y19 : MethodName := ⟨"java/lang/StringUTF16", "compress", "([CI[BII)I"⟩
theorem B20 : BI y19 "java/lang/StringUTF16" "compress" := ⟨(plainFor_of_name pn_java_lang_StringUTF16), rfl, rfl⟩
abbrev c20 := jdk_52_method_21_code
theorem d20_0 : DC c20 0 (.iconst 0) 1 := by decide +kernel
theorem d20_1 : DC c20 1 (.istore 5) 2 := by decide +kernel
theorem d20_3 : DC c20 3 (.iload 5) 2 := by decide +kernel
theorem d20_5 : DC c20 5 (.iload 4) 2 := by decide +kernel
theorem d20_7 : DC c20 7 (.if_icmp .ge 37) 3 := by decide +kernel
theorem d20_10 : DC c20 10 (.aload_n 0) 1 := by decide +kernel
theorem d20_11 : DC c20 11 (.iload_n 1) 1 := by decide +kernel
theorem d20_12 : DC c20 12 .caload 1 := by decide +kernel
theorem d20_13 : DC c20 13 (.istore 6) 2 := by decide +kernel
theorem d20_15 : DC c20 15 (.iload 6) 2 := by decide +kernel
theorem d20_17 : DC c20 17 (.sipush 255) 3 := by decide +kernel
theorem d20_20 : DC c20 20 (.if_icmp .le 6) 3 := by decide +kernel
theorem d20_26 : DC c20 26 (.aload_n 2) 1 := by decide +kernel
theorem d20_27 : DC c20 27 (.iload_n 3) 1 := by decide +kernel
theorem d20_28 : DC c20 28 (.iload 6) 2 := by decide +kernel
theorem d20_30 : DC c20 30 .i2b 1 := by decide +kernel
theorem d20_31 : DC c20 31 .bastore 1 := by decide +kernel
theorem d20_32 : DC c20 32 (.iinc 1 1) 3 := by decide +kernel
theorem d20_35 : DC c20 35 (.iinc 3 1) 3 := by decide +kernel
theorem d20_38 : DC c20 38 (.iinc 5 1) 3 := by decide +kernel
theorem d20_41 : DC c20 41 (.goto (-38)) 3 := by decide +kernel
theorem d20_44 : DC c20 44 (.iload 4) 2 := by decide +kernel
theorem d20_46 : DC c20 46 .ireturn 1 := by decide +kernel
abbrev M20 := MM G y19 c20 7 (some .int)
theorem pd_16 : parseMethodDescriptor "([CI[BII)I" = some ⟨[(.array .char), .int, (.array .byte), .int, .int], (some .int)⟩ := by decide +kernel
def u17 : WS_static Z a0 "java/lang/StringUTF16" 115 y19 c20 7 (some .int) 5 := ⟨(w67 G), (w68 G), (w65 G), (w69 G), by decide +kernel, lenN pd_16 rfl⟩
theorem d19_12 : DC c19 12 (.istore 4) 2 := by decide +kernel
theorem d19_14 : DC c19 14 (.iload 4) 2 := by decide +kernel
theorem d19_16 : DC c19 16 (.iload_n 2) 1 := by decide +kernel
theorem d19_17 : DC c19 17 (.if_icmp .eq 40) 3 := by decide +kernel
theorem d19_57 : DC c19 57 (.aload_n 3) 1 := by decide +kernel
theorem d19_58 : DC c19 58 .areturn 1 := by decide +kernel
abbrev M19 := MM G y18 c19 6 (some (.array .byte))
theorem pd_17 : parseMethodDescriptor "([CII)[B" = some ⟨[(.array .char), .int, .int], (some (.array .byte))⟩ := by decide +kernel
def u18 : WS_static Z a0 "java/lang/String" 177 y18 c19 6 (some (.array .byte)) 3 := ⟨(w63 G), (w64 G), (w65 G), (w66 G), by decide +kernel, lenN pd_17 rfl⟩
theorem d18_39 : DC c18 39 (.astore 5) 2 := by decide +kernel
theorem d18_41 : DC c18 41 (.aload_n 0) 1 := by decide +kernel
theorem d18_42 : DC c18 42 (.aload 5) 2 := by decide +kernel
theorem d18_44 : DC c18 44 (.iload_n 3) 1 := by decide +kernel
theorem d18_45 : DC c18 45 (.invokestatic 47) 3 := by decide +kernel
abbrev y20 : MethodName := ⟨"java/lang/StringUTF16", "coderFromArrayLen", "([BI)B"⟩
theorem B21 : BI y20 "java/lang/StringUTF16" "coderFromArrayLen" := ⟨(plainFor_of_name pn_java_lang_StringUTF16), rfl, rfl⟩
abbrev c21 := jdk_52_method_15_code
theorem d21_0 : DC c21 0 (.iload_n 1) 1 := by decide +kernel
theorem d21_1 : DC c21 1 (.aload_n 0) 1 := by decide +kernel
theorem d21_2 : DC c21 2 .arraylength 1 := by decide +kernel
theorem d21_3 : DC c21 3 .isub 1 := by decide +kernel
theorem d21_4 : DC c21 4 (.bipush 31) 2 := by decide +kernel
theorem d21_6 : DC c21 6 .iushr 1 := by decide +kernel
theorem d21_7 : DC c21 7 .i2b 1 := by decide +kernel
theorem d21_8 : DC c21 8 .ireturn 1 := by decide +kernel
abbrev M21 := MM G y20 c21 2 (some .byte)
theorem pd_18 : parseMethodDescriptor "([BI)B" = some ⟨[(.array .byte), .int], (some .byte)⟩ := by decide +kernel
def u19 : WS_static Z a0 "java/lang/String" 47 y20 c21 2 (some .byte) 2 := ⟨(w70 G), (w71 G), (w65 G), (w72 G), by decide +kernel, lenN pd_18 rfl⟩
theorem d18_48 : DC c18 48 (.putfield 15) 3 := by decide +kernel
theorem d18_51 : DC c18 51 (.aload_n 0) 1 := by decide +kernel
theorem d18_52 : DC c18 52 (.aload 5) 2 := by decide +kernel
theorem d18_54 : DC c18 54 (.putfield 9) 3 := by decide +kernel
def sn0 := slot_ne (Or.inr (w4 G)) (Or.inr (w5 G)) (by decide +kernel) (t := (.array .byte)) (t' := .byte) fd_0 fd_1
theorem d18_57 : DC c18 57 .return_ 1 := by decide +kernel
def sn1 := slot_ne (Or.inr (w5 G)) (Or.inr (w4 G)) (by decide +kernel) (t := .byte) (t' := (.array .byte)) fd_1 fd_0
abbrev M18 := MM G y17 c18 6 none
theorem pd_19 : parseMethodDescriptor "([CIILjava/lang/Void;)V" = some ⟨[(.array .char), .int, .int, (.object "java/lang/Void")], none⟩ := by decide +kernel
def u20 : WS_special Z a0 "java/lang/String" 27 y17 c18 6 4 := ⟨(w1 G), rfl, (w56 G), (w57 G), (w59 G), by decide +kernel, lenN pd_19 rfl⟩
theorem d17_9 : DC c17 9 .return_ 1 := by decide +kernel
abbrev M17 := MM G y16 c17 2 none
theorem pd_20 : parseMethodDescriptor "([C)V" = some ⟨[(.array .char)], none⟩ := by decide +kernel
def u21 : WS_special Z a0 "com/example/hedgerow/hedgerow/setup/KindSpeltPinLaw" 54 y16 c17 2 1 := ⟨(w1 G), rfl, (w53 G), (w54 G), (w55 G), by decide +kernel, lenN pd_20 rfl⟩
theorem d10_40 : DC c10 40 .areturn 1 := by decide +kernel
theorem d10_41 : DC c10 41 (.iload_n 1) 1 := by decide +kernel
theorem d10_42 : DC c10 42 (.iconst 2) 1 := by decide +kernel
theorem d10_43 : DC c10 43 (.if_icmp .ne 38) 3 := by decide +kernel
theorem d10_46 : DC c10 46 (.new 43) 3 := by decide +kernel
theorem d10_49 : DC c10 49 .dup 1 := by decide +kernel
theorem d10_50 : DC c10 50 (.iconst 4) 1 := by decide +kernel
theorem d10_51 : DC c10 51 (.newarray .char) 2 := by decide +kernel
theorem d10_53 : DC c10 53 .dup 1 := by decide +kernel
theorem d10_54 : DC c10 54 (.iconst 0) 1 := by decide +kernel
theorem d10_55 : DC c10 55 (.aload_n 0) 1 := by decide +kernel
theorem d10_56 : DC c10 56 (.iconst 0) 1 := by decide +kernel
theorem d10_57 : DC c10 57 .caload 1 := by decide +kernel
theorem d10_58 : DC c10 58 .castore 1 := by decide +kernel
theorem d10_59 : DC c10 59 .dup 1 := by decide +kernel
theorem d10_60 : DC c10 60 (.iconst 1) 1 := by decide +kernel
theorem d10_61 : DC c10 61 (.aload_n 0) 1 := by decide +kernel
theorem d10_62 : DC c10 62 (.iconst 1) 1 := by decide +kernel
theorem d10_63 : DC c10 63 .caload 1 := by decide +kernel
theorem d10_64 : DC c10 64 .castore 1 := by decide +kernel
theorem d10_65 : DC c10 65 .dup 1 := by decide +kernel
theorem d10_66 : DC c10 66 (.iconst 2) 1 := by decide +kernel
theorem d10_67 : DC c10 67 (.aload_n 0) 1 := by decide +kernel
theorem d10_68 : DC c10 68 (.iconst 2) 1 := by decide +kernel
theorem d10_69 : DC c10 69 .caload 1 := by decide +kernel
theorem d10_70 : DC c10 70 .castore 1 := by decide +kernel
theorem d10_71 : DC c10 71 .dup 1 := by decide +kernel
theorem d10_72 : DC c10 72 (.iconst 3) 1 := by decide +kernel
theorem d10_73 : DC c10 73 (.aload_n 0) 1 := by decide +kernel
theorem d10_74 : DC c10 74 (.iconst 3) 1 := by decide +kernel
theorem d10_75 : DC c10 75 .caload 1 := by decide +kernel
theorem d10_76 : DC c10 76 .castore 1 := by decide +kernel
theorem d10_77 : DC c10 77 (.invokespecial 54) 3 := by decide +kernel
theorem d10_80 : DC c10 80 .areturn 1 := by decide +kernel
theorem d12_50 : DC c12 50 (.iconst 1) 1 := by decide +kernel
theorem d12_51 : DC c12 51 (.goto 4) 3 := by decide +kernel
theorem d11_22 : DC c11 22 (.getstatic 65) 3 := by decide +kernel
theorem d11_25 : DC c11 25 .areturn 1 := by decide +kernel
theorem d13_31 : DC c13 31 (.aload 4) 2 := by decide +kernel
theorem d13_33 : DC c13 33 (.invokestatic 55) 3 := by decide +kernel
abbrev y21 : MethodName := ⟨"java/util/Optional", "of", "(Ljava/lang/Object;)Ljava/util/Optional;"⟩
theorem B22 : BI y21 "java/util/Optional" "of" := ⟨(plainFor_of_name pn_java_util_Optional), rfl, rfl⟩
abbrev c22 := jdk_32_method_3_code
theorem d22_0 : DC c22 0 (.new 2) 3 := by decide +kernel
theorem fd_2 : parseFieldDescriptor "Ljava/lang/Object;" = some (.object "java/lang/Object") := by decide +kernel
theorem d22_3 : DC c22 3 .dup 1 := by decide +kernel
theorem d22_4 : DC c22 4 (.aload_n 0) 1 := by decide +kernel
theorem d22_5 : DC c22 5 (.invokestatic 17) 3 := by decide +kernel
theorem pn_java_util_Objects : plainName "java/util/Objects" = true := by first | decide +kernel | (simp [plainName, overriddenIn]; done)
abbrev y22 : MethodName := ⟨"java/util/Objects", "requireNonNull", "(Ljava/lang/Object;)Ljava/lang/Object;"⟩
theorem B23 : BI y22 "java/util/Objects" "requireNonNull" := ⟨(plainFor_of_name pn_java_util_Objects), rfl, rfl⟩
abbrev c23 := jdk_31_method_10_code
theorem d23_0 : DC c23 0 (.aload_n 0) 1 := by decide +kernel
theorem d23_1 : DC c23 1 (.ifnonnull 11) 3 := by decide +kernel
theorem d23_12 : DC c23 12 (.aload_n 0) 1 := by decide +kernel
theorem d23_13 : DC c23 13 .areturn 1 := by decide +kernel
abbrev M23 := MM G y22 c23 1 (some (.object "java/lang/Object"))
def u22 : WS_static Z a0 "java/util/Optional" 17 y22 c23 1 (some (.object "java/lang/Object")) 1 := ⟨(w132 G), (w133 G), (w134 G), (w135 G), by decide +kernel, lenN pd_15 rfl⟩
theorem d22_8 : DC c22 8 (.invokespecial 23) 3 := by decide +kernel
abbrev y23 : MethodName := ⟨"java/util/Optional", "<init>", "(Ljava/lang/Object;)V"⟩
theorem B24 : BI y23 "java/util/Optional" "<init>" := ⟨(plainFor_of_name pn_java_util_Optional), rfl, rfl⟩
abbrev c24 := jdk_32_method_2_code
theorem d24_0 : DC c24 0 (.aload_n 0) 1 := by decide +kernel
theorem d24_1 : DC c24 1 (.invokespecial 7) 3 := by decide +kernel
theorem d24_4 : DC c24 4 (.aload_n 0) 1 := by decide +kernel
theorem d24_5 : DC c24 5 (.aload_n 1) 1 := by decide +kernel
theorem d24_6 : DC c24 6 (.putfield 13) 3 := by decide +kernel
theorem nc1 : "java/util/Optional" ≠ "java/lang/String" ∧ "java/util/Optional" ≠ "[B" := by decide +kernel
theorem d24_9 : DC c24 9 .return_ 1 := by decide +kernel
abbrev M24 := MM G y23 c24 2 none
theorem pd_21 : parseMethodDescriptor "(Ljava/lang/Object;)V" = some ⟨[(.object "java/lang/Object")], none⟩ := by decide +kernel
def u23 : WS_special Z a0 "java/util/Optional" 23 y23 c24 2 1 := ⟨(w116 G), rfl, (w136 G), (w137 G), (w139 G), by decide +kernel, lenN pd_21 rfl⟩
theorem d22_11 : DC c22 11 .areturn 1 := by decide +kernel
abbrev M22 := MM G y21 c22 1 (some (.object "java/util/Optional"))
theorem pd_22 : parseMethodDescriptor "(Ljava/lang/Object;)Ljava/util/Optional;" = some ⟨[(.object "java/lang/Object")], (some (.object "java/util/Optional"))⟩ := by decide +kernel
def u24 : WS_static Z a0 "com/example/hedgerow/hedgerow/setup/Category$Kind" 55 y21 c22 1 (some (.object "java/util/Optional")) 1 := ⟨(w127 G), (w128 G), (w116 G), (w129 G), by decide +kernel, lenN pd_22 rfl⟩
theorem d13_36 : DC c13 36 .areturn 1 := by decide +kernel
theorem d16_7 : DC c16 7 (.aload_n 0) 1 := by decide +kernel
theorem d16_8 : DC c16 8 (.getfield 13) 3 := by decide +kernel
theorem d16_11 : DC c16 11 (.goto 4) 3 := by decide +kernel
theorem d11_9 : DC c11 9 (.getstatic 61) 3 := by decide +kernel
theorem d11_12 : DC c11 12 .areturn 1 := by decide +kernel
theorem d10_81 : DC c10 81 (.iload_n 1) 1 := by decide +kernel
theorem d10_82 : DC c10 82 (.iconst 3) 1 := by decide +kernel
theorem d10_83 : DC c10 83 (.if_icmp .ne 44) 3 := by decide +kernel
theorem d10_86 : DC c10 86 (.new 43) 3 := by decide +kernel
theorem d10_89 : DC c10 89 .dup 1 := by decide +kernel
theorem d10_90 : DC c10 90 (.iconst 5) 1 := by decide +kernel
theorem d10_91 : DC c10 91 (.newarray .char) 2 := by decide +kernel
theorem d10_93 : DC c10 93 .dup 1 := by decide +kernel
theorem d10_94 : DC c10 94 (.iconst 0) 1 := by decide +kernel
theorem d10_95 : DC c10 95 (.aload_n 0) 1 := by decide +kernel
theorem d10_96 : DC c10 96 (.iconst 0) 1 := by decide +kernel
theorem d10_97 : DC c10 97 .caload 1 := by decide +kernel
theorem d10_98 : DC c10 98 .castore 1 := by decide +kernel
theorem d10_99 : DC c10 99 .dup 1 := by decide +kernel
theorem d10_100 : DC c10 100 (.iconst 1) 1 := by decide +kernel
theorem d10_101 : DC c10 101 (.aload_n 0) 1 := by decide +kernel
theorem d10_102 : DC c10 102 (.iconst 1) 1 := by decide +kernel
theorem d10_103 : DC c10 103 .caload 1 := by decide +kernel
theorem d10_104 : DC c10 104 .castore 1 := by decide +kernel
theorem d10_105 : DC c10 105 .dup 1 := by decide +kernel
theorem d10_106 : DC c10 106 (.iconst 2) 1 := by decide +kernel
theorem d10_107 : DC c10 107 (.aload_n 0) 1 := by decide +kernel
theorem d10_108 : DC c10 108 (.iconst 2) 1 := by decide +kernel
theorem d10_109 : DC c10 109 .caload 1 := by decide +kernel
theorem d10_110 : DC c10 110 .castore 1 := by decide +kernel
theorem d10_111 : DC c10 111 .dup 1 := by decide +kernel
theorem d10_112 : DC c10 112 (.iconst 3) 1 := by decide +kernel
theorem d10_113 : DC c10 113 (.aload_n 0) 1 := by decide +kernel
theorem d10_114 : DC c10 114 (.iconst 3) 1 := by decide +kernel
theorem d10_115 : DC c10 115 .caload 1 := by decide +kernel
theorem d10_116 : DC c10 116 .castore 1 := by decide +kernel
theorem d10_117 : DC c10 117 .dup 1 := by decide +kernel
theorem d10_118 : DC c10 118 (.iconst 4) 1 := by decide +kernel
theorem d10_119 : DC c10 119 (.aload_n 0) 1 := by decide +kernel
theorem d10_120 : DC c10 120 (.iconst 4) 1 := by decide +kernel
theorem d10_121 : DC c10 121 .caload 1 := by decide +kernel
theorem d10_122 : DC c10 122 .castore 1 := by decide +kernel
theorem d10_123 : DC c10 123 (.invokespecial 54) 3 := by decide +kernel
theorem d10_126 : DC c10 126 .areturn 1 := by decide +kernel
theorem d11_35 : DC c11 35 (.getstatic 68) 3 := by decide +kernel
theorem d11_38 : DC c11 38 .areturn 1 := by decide +kernel
theorem d10_127 : DC c10 127 (.iload_n 1) 1 := by decide +kernel
theorem d10_128 : DC c10 128 (.iconst 4) 1 := by decide +kernel
theorem d10_129 : DC c10 129 (.if_icmp .ne 51) 3 := by decide +kernel
theorem d10_132 : DC c10 132 (.new 43) 3 := by decide +kernel
theorem d10_135 : DC c10 135 .dup 1 := by decide +kernel
theorem d10_136 : DC c10 136 (.bipush 6) 2 := by decide +kernel
theorem d10_138 : DC c10 138 (.newarray .char) 2 := by decide +kernel
theorem d10_140 : DC c10 140 .dup 1 := by decide +kernel
theorem d10_141 : DC c10 141 (.iconst 0) 1 := by decide +kernel
theorem d10_142 : DC c10 142 (.aload_n 0) 1 := by decide +kernel
theorem d10_143 : DC c10 143 (.iconst 0) 1 := by decide +kernel
theorem d10_144 : DC c10 144 .caload 1 := by decide +kernel
theorem d10_145 : DC c10 145 .castore 1 := by decide +kernel
theorem d10_146 : DC c10 146 .dup 1 := by decide +kernel
theorem d10_147 : DC c10 147 (.iconst 1) 1 := by decide +kernel
theorem d10_148 : DC c10 148 (.aload_n 0) 1 := by decide +kernel
theorem d10_149 : DC c10 149 (.iconst 1) 1 := by decide +kernel
theorem d10_150 : DC c10 150 .caload 1 := by decide +kernel
theorem d10_151 : DC c10 151 .castore 1 := by decide +kernel
theorem d10_152 : DC c10 152 .dup 1 := by decide +kernel
theorem d10_153 : DC c10 153 (.iconst 2) 1 := by decide +kernel
theorem d10_154 : DC c10 154 (.aload_n 0) 1 := by decide +kernel
theorem d10_155 : DC c10 155 (.iconst 2) 1 := by decide +kernel
theorem d10_156 : DC c10 156 .caload 1 := by decide +kernel
theorem d10_157 : DC c10 157 .castore 1 := by decide +kernel
theorem d10_158 : DC c10 158 .dup 1 := by decide +kernel
theorem d10_159 : DC c10 159 (.iconst 3) 1 := by decide +kernel
theorem d10_160 : DC c10 160 (.aload_n 0) 1 := by decide +kernel
theorem d10_161 : DC c10 161 (.iconst 3) 1 := by decide +kernel
theorem d10_162 : DC c10 162 .caload 1 := by decide +kernel
theorem d10_163 : DC c10 163 .castore 1 := by decide +kernel
theorem d10_164 : DC c10 164 .dup 1 := by decide +kernel
theorem d10_165 : DC c10 165 (.iconst 4) 1 := by decide +kernel
theorem d10_166 : DC c10 166 (.aload_n 0) 1 := by decide +kernel
theorem d10_167 : DC c10 167 (.iconst 4) 1 := by decide +kernel
theorem d10_168 : DC c10 168 .caload 1 := by decide +kernel
theorem d10_169 : DC c10 169 .castore 1 := by decide +kernel
theorem d10_170 : DC c10 170 .dup 1 := by decide +kernel
theorem d10_171 : DC c10 171 (.iconst 5) 1 := by decide +kernel
theorem d10_172 : DC c10 172 (.aload_n 0) 1 := by decide +kernel
theorem d10_173 : DC c10 173 (.iconst 5) 1 := by decide +kernel
theorem d10_174 : DC c10 174 .caload 1 := by decide +kernel
theorem d10_175 : DC c10 175 .castore 1 := by decide +kernel
theorem d10_176 : DC c10 176 (.invokespecial 54) 3 := by decide +kernel
theorem d10_179 : DC c10 179 .areturn 1 := by decide +kernel
theorem d10_180 : DC c10 180 (.iload_n 1) 1 := by decide +kernel
theorem d10_181 : DC c10 181 (.iconst 5) 1 := by decide +kernel
theorem d10_182 : DC c10 182 (.if_icmp .ne 163) 3 := by decide +kernel
theorem d10_185 : DC c10 185 (.new 43) 3 := by decide +kernel
theorem d10_188 : DC c10 188 .dup 1 := by decide +kernel
theorem d10_189 : DC c10 189 (.bipush 20) 2 := by decide +kernel
theorem d10_191 : DC c10 191 (.newarray .char) 2 := by decide +kernel
theorem d10_193 : DC c10 193 .dup 1 := by decide +kernel
theorem d10_194 : DC c10 194 (.iconst 0) 1 := by decide +kernel
theorem d10_195 : DC c10 195 (.aload_n 0) 1 := by decide +kernel
theorem d10_196 : DC c10 196 (.iconst 0) 1 := by decide +kernel
theorem d10_197 : DC c10 197 .caload 1 := by decide +kernel
theorem d10_198 : DC c10 198 .castore 1 := by decide +kernel
theorem d10_199 : DC c10 199 .dup 1 := by decide +kernel
theorem d10_200 : DC c10 200 (.iconst 1) 1 := by decide +kernel
theorem d10_201 : DC c10 201 (.aload_n 0) 1 := by decide +kernel
theorem d10_202 : DC c10 202 (.iconst 1) 1 := by decide +kernel
theorem d10_203 : DC c10 203 .caload 1 := by decide +kernel
theorem d10_204 : DC c10 204 .castore 1 := by decide +kernel
theorem d10_205 : DC c10 205 .dup 1 := by decide +kernel
theorem d10_206 : DC c10 206 (.iconst 2) 1 := by decide +kernel
theorem d10_207 : DC c10 207 (.aload_n 0) 1 := by decide +kernel
theorem d10_208 : DC c10 208 (.iconst 2) 1 := by decide +kernel
theorem d10_209 : DC c10 209 .caload 1 := by decide +kernel
theorem d10_210 : DC c10 210 .castore 1 := by decide +kernel
theorem d10_211 : DC c10 211 .dup 1 := by decide +kernel
theorem d10_212 : DC c10 212 (.iconst 3) 1 := by decide +kernel
theorem d10_213 : DC c10 213 (.aload_n 0) 1 := by decide +kernel
theorem d10_214 : DC c10 214 (.iconst 3) 1 := by decide +kernel
theorem d10_215 : DC c10 215 .caload 1 := by decide +kernel
theorem d10_216 : DC c10 216 .castore 1 := by decide +kernel
theorem d10_217 : DC c10 217 .dup 1 := by decide +kernel
theorem d10_218 : DC c10 218 (.iconst 4) 1 := by decide +kernel
theorem d10_219 : DC c10 219 (.aload_n 0) 1 := by decide +kernel
theorem d10_220 : DC c10 220 (.iconst 4) 1 := by decide +kernel
theorem d10_221 : DC c10 221 .caload 1 := by decide +kernel
theorem d10_222 : DC c10 222 .castore 1 := by decide +kernel
theorem d10_223 : DC c10 223 .dup 1 := by decide +kernel
theorem d10_224 : DC c10 224 (.iconst 5) 1 := by decide +kernel
theorem d10_225 : DC c10 225 (.aload_n 0) 1 := by decide +kernel
theorem d10_226 : DC c10 226 (.iconst 5) 1 := by decide +kernel
theorem d10_227 : DC c10 227 .caload 1 := by decide +kernel
theorem d10_228 : DC c10 228 .castore 1 := by decide +kernel
theorem d10_229 : DC c10 229 .dup 1 := by decide +kernel
theorem d10_230 : DC c10 230 (.bipush 6) 2 := by decide +kernel
theorem d10_232 : DC c10 232 (.aload_n 0) 1 := by decide +kernel
theorem d10_233 : DC c10 233 (.bipush 6) 2 := by decide +kernel
theorem d10_235 : DC c10 235 .caload 1 := by decide +kernel
theorem d10_236 : DC c10 236 .castore 1 := by decide +kernel
theorem d10_237 : DC c10 237 .dup 1 := by decide +kernel
theorem d10_238 : DC c10 238 (.bipush 7) 2 := by decide +kernel
theorem d10_240 : DC c10 240 (.aload_n 0) 1 := by decide +kernel
theorem d10_241 : DC c10 241 (.bipush 7) 2 := by decide +kernel
theorem d10_243 : DC c10 243 .caload 1 := by decide +kernel
theorem d10_244 : DC c10 244 .castore 1 := by decide +kernel
theorem d10_245 : DC c10 245 .dup 1 := by decide +kernel
theorem d10_246 : DC c10 246 (.bipush 8) 2 := by decide +kernel
theorem d10_248 : DC c10 248 (.aload_n 0) 1 := by decide +kernel
theorem d10_249 : DC c10 249 (.bipush 8) 2 := by decide +kernel
theorem d10_251 : DC c10 251 .caload 1 := by decide +kernel
theorem d10_252 : DC c10 252 .castore 1 := by decide +kernel
theorem d10_253 : DC c10 253 .dup 1 := by decide +kernel
theorem d10_254 : DC c10 254 (.bipush 9) 2 := by decide +kernel
theorem d10_256 : DC c10 256 (.aload_n 0) 1 := by decide +kernel
theorem d10_257 : DC c10 257 (.bipush 9) 2 := by decide +kernel
theorem d10_259 : DC c10 259 .caload 1 := by decide +kernel
theorem d10_260 : DC c10 260 .castore 1 := by decide +kernel
theorem d10_261 : DC c10 261 .dup 1 := by decide +kernel
theorem d10_262 : DC c10 262 (.bipush 10) 2 := by decide +kernel
theorem d10_264 : DC c10 264 (.aload_n 0) 1 := by decide +kernel
theorem d10_265 : DC c10 265 (.bipush 10) 2 := by decide +kernel
theorem d10_267 : DC c10 267 .caload 1 := by decide +kernel
theorem d10_268 : DC c10 268 .castore 1 := by decide +kernel
theorem d10_269 : DC c10 269 .dup 1 := by decide +kernel
theorem d10_270 : DC c10 270 (.bipush 11) 2 := by decide +kernel
theorem d10_272 : DC c10 272 (.aload_n 0) 1 := by decide +kernel
theorem d10_273 : DC c10 273 (.bipush 11) 2 := by decide +kernel
theorem d10_275 : DC c10 275 .caload 1 := by decide +kernel
theorem d10_276 : DC c10 276 .castore 1 := by decide +kernel
theorem d10_277 : DC c10 277 .dup 1 := by decide +kernel
theorem d10_278 : DC c10 278 (.bipush 12) 2 := by decide +kernel
theorem d10_280 : DC c10 280 (.aload_n 0) 1 := by decide +kernel
theorem d10_281 : DC c10 281 (.bipush 12) 2 := by decide +kernel
theorem d10_283 : DC c10 283 .caload 1 := by decide +kernel
theorem d10_284 : DC c10 284 .castore 1 := by decide +kernel
theorem d10_285 : DC c10 285 .dup 1 := by decide +kernel
theorem d10_286 : DC c10 286 (.bipush 13) 2 := by decide +kernel
theorem d10_288 : DC c10 288 (.aload_n 0) 1 := by decide +kernel
theorem d10_289 : DC c10 289 (.bipush 13) 2 := by decide +kernel
theorem d10_291 : DC c10 291 .caload 1 := by decide +kernel
theorem d10_292 : DC c10 292 .castore 1 := by decide +kernel
theorem d10_293 : DC c10 293 .dup 1 := by decide +kernel
theorem d10_294 : DC c10 294 (.bipush 14) 2 := by decide +kernel
theorem d10_296 : DC c10 296 (.aload_n 0) 1 := by decide +kernel
theorem d10_297 : DC c10 297 (.bipush 14) 2 := by decide +kernel
theorem d10_299 : DC c10 299 .caload 1 := by decide +kernel
theorem d10_300 : DC c10 300 .castore 1 := by decide +kernel
theorem d10_301 : DC c10 301 .dup 1 := by decide +kernel
theorem d10_302 : DC c10 302 (.bipush 15) 2 := by decide +kernel
theorem d10_304 : DC c10 304 (.aload_n 0) 1 := by decide +kernel
theorem d10_305 : DC c10 305 (.bipush 15) 2 := by decide +kernel
theorem d10_307 : DC c10 307 .caload 1 := by decide +kernel
theorem d10_308 : DC c10 308 .castore 1 := by decide +kernel
theorem d10_309 : DC c10 309 .dup 1 := by decide +kernel
theorem d10_310 : DC c10 310 (.bipush 16) 2 := by decide +kernel
theorem d10_312 : DC c10 312 (.aload_n 0) 1 := by decide +kernel
theorem d10_313 : DC c10 313 (.bipush 16) 2 := by decide +kernel
theorem d10_315 : DC c10 315 .caload 1 := by decide +kernel
theorem d10_316 : DC c10 316 .castore 1 := by decide +kernel
theorem d10_317 : DC c10 317 .dup 1 := by decide +kernel
theorem d10_318 : DC c10 318 (.bipush 17) 2 := by decide +kernel
theorem d10_320 : DC c10 320 (.aload_n 0) 1 := by decide +kernel
theorem d10_321 : DC c10 321 (.bipush 17) 2 := by decide +kernel
theorem d10_323 : DC c10 323 .caload 1 := by decide +kernel
theorem d10_324 : DC c10 324 .castore 1 := by decide +kernel
theorem d10_325 : DC c10 325 .dup 1 := by decide +kernel
theorem d10_326 : DC c10 326 (.bipush 18) 2 := by decide +kernel
theorem d10_328 : DC c10 328 (.aload_n 0) 1 := by decide +kernel
theorem d10_329 : DC c10 329 (.bipush 18) 2 := by decide +kernel
theorem d10_331 : DC c10 331 .caload 1 := by decide +kernel
theorem d10_332 : DC c10 332 .castore 1 := by decide +kernel
theorem d10_333 : DC c10 333 .dup 1 := by decide +kernel
theorem d10_334 : DC c10 334 (.bipush 19) 2 := by decide +kernel
theorem d10_336 : DC c10 336 (.aload_n 0) 1 := by decide +kernel
theorem d10_337 : DC c10 337 (.bipush 19) 2 := by decide +kernel
theorem d10_339 : DC c10 339 .caload 1 := by decide +kernel
theorem d10_340 : DC c10 340 .castore 1 := by decide +kernel
theorem d10_341 : DC c10 341 (.invokespecial 54) 3 := by decide +kernel
theorem d10_344 : DC c10 344 .areturn 1 := by decide +kernel
theorem d10_345 : DC c10 345 (.iload_n 1) 1 := by decide +kernel
theorem d10_346 : DC c10 346 (.bipush 6) 2 := by decide +kernel
theorem d10_348 : DC c10 348 (.if_icmp .ne 171) 3 := by decide +kernel
theorem d10_351 : DC c10 351 (.new 43) 3 := by decide +kernel
theorem d10_354 : DC c10 354 .dup 1 := by decide +kernel
theorem d10_355 : DC c10 355 (.bipush 21) 2 := by decide +kernel
theorem d10_357 : DC c10 357 (.newarray .char) 2 := by decide +kernel
theorem d10_359 : DC c10 359 .dup 1 := by decide +kernel
theorem d10_360 : DC c10 360 (.iconst 0) 1 := by decide +kernel
theorem d10_361 : DC c10 361 (.aload_n 0) 1 := by decide +kernel
theorem d10_362 : DC c10 362 (.iconst 0) 1 := by decide +kernel
theorem d10_363 : DC c10 363 .caload 1 := by decide +kernel
theorem d10_364 : DC c10 364 .castore 1 := by decide +kernel
theorem d10_365 : DC c10 365 .dup 1 := by decide +kernel
theorem d10_366 : DC c10 366 (.iconst 1) 1 := by decide +kernel
theorem d10_367 : DC c10 367 (.aload_n 0) 1 := by decide +kernel
theorem d10_368 : DC c10 368 (.iconst 1) 1 := by decide +kernel
theorem d10_369 : DC c10 369 .caload 1 := by decide +kernel
theorem d10_370 : DC c10 370 .castore 1 := by decide +kernel
theorem d10_371 : DC c10 371 .dup 1 := by decide +kernel
theorem d10_372 : DC c10 372 (.iconst 2) 1 := by decide +kernel
theorem d10_373 : DC c10 373 (.aload_n 0) 1 := by decide +kernel
theorem d10_374 : DC c10 374 (.iconst 2) 1 := by decide +kernel
theorem d10_375 : DC c10 375 .caload 1 := by decide +kernel
theorem d10_376 : DC c10 376 .castore 1 := by decide +kernel
theorem d10_377 : DC c10 377 .dup 1 := by decide +kernel
theorem d10_378 : DC c10 378 (.iconst 3) 1 := by decide +kernel
theorem d10_379 : DC c10 379 (.aload_n 0) 1 := by decide +kernel
theorem d10_380 : DC c10 380 (.iconst 3) 1 := by decide +kernel
theorem d10_381 : DC c10 381 .caload 1 := by decide +kernel
theorem d10_382 : DC c10 382 .castore 1 := by decide +kernel
theorem d10_383 : DC c10 383 .dup 1 := by decide +kernel
theorem d10_384 : DC c10 384 (.iconst 4) 1 := by decide +kernel
theorem d10_385 : DC c10 385 (.aload_n 0) 1 := by decide +kernel
theorem d10_386 : DC c10 386 (.iconst 4) 1 := by decide +kernel
theorem d10_387 : DC c10 387 .caload 1 := by decide +kernel
theorem d10_388 : DC c10 388 .castore 1 := by decide +kernel
theorem d10_389 : DC c10 389 .dup 1 := by decide +kernel
theorem d10_390 : DC c10 390 (.iconst 5) 1 := by decide +kernel
theorem d10_391 : DC c10 391 (.aload_n 0) 1 := by decide +kernel
theorem d10_392 : DC c10 392 (.iconst 5) 1 := by decide +kernel
theorem d10_393 : DC c10 393 .caload 1 := by decide +kernel
theorem d10_394 : DC c10 394 .castore 1 := by decide +kernel
theorem d10_395 : DC c10 395 .dup 1 := by decide +kernel
theorem d10_396 : DC c10 396 (.bipush 6) 2 := by decide +kernel
theorem d10_398 : DC c10 398 (.aload_n 0) 1 := by decide +kernel
theorem d10_399 : DC c10 399 (.bipush 6) 2 := by decide +kernel
theorem d10_401 : DC c10 401 .caload 1 := by decide +kernel
theorem d10_402 : DC c10 402 .castore 1 := by decide +kernel
theorem d10_403 : DC c10 403 .dup 1 := by decide +kernel
theorem d10_404 : DC c10 404 (.bipush 7) 2 := by decide +kernel
theorem d10_406 : DC c10 406 (.aload_n 0) 1 := by decide +kernel
theorem d10_407 : DC c10 407 (.bipush 7) 2 := by decide +kernel
theorem d10_409 : DC c10 409 .caload 1 := by decide +kernel
theorem d10_410 : DC c10 410 .castore 1 := by decide +kernel
theorem d10_411 : DC c10 411 .dup 1 := by decide +kernel
theorem d10_412 : DC c10 412 (.bipush 8) 2 := by decide +kernel
theorem d10_414 : DC c10 414 (.aload_n 0) 1 := by decide +kernel
theorem d10_415 : DC c10 415 (.bipush 8) 2 := by decide +kernel
theorem d10_417 : DC c10 417 .caload 1 := by decide +kernel
theorem d10_418 : DC c10 418 .castore 1 := by decide +kernel
theorem d10_419 : DC c10 419 .dup 1 := by decide +kernel
theorem d10_420 : DC c10 420 (.bipush 9) 2 := by decide +kernel
theorem d10_422 : DC c10 422 (.aload_n 0) 1 := by decide +kernel
theorem d10_423 : DC c10 423 (.bipush 9) 2 := by decide +kernel
theorem d10_425 : DC c10 425 .caload 1 := by decide +kernel
theorem d10_426 : DC c10 426 .castore 1 := by decide +kernel
theorem d10_427 : DC c10 427 .dup 1 := by decide +kernel
theorem d10_428 : DC c10 428 (.bipush 10) 2 := by decide +kernel
theorem d10_430 : DC c10 430 (.aload_n 0) 1 := by decide +kernel
theorem d10_431 : DC c10 431 (.bipush 10) 2 := by decide +kernel
theorem d10_433 : DC c10 433 .caload 1 := by decide +kernel
theorem d10_434 : DC c10 434 .castore 1 := by decide +kernel
theorem d10_435 : DC c10 435 .dup 1 := by decide +kernel
theorem d10_436 : DC c10 436 (.bipush 11) 2 := by decide +kernel
theorem d10_438 : DC c10 438 (.aload_n 0) 1 := by decide +kernel
theorem d10_439 : DC c10 439 (.bipush 11) 2 := by decide +kernel
theorem d10_441 : DC c10 441 .caload 1 := by decide +kernel
theorem d10_442 : DC c10 442 .castore 1 := by decide +kernel
theorem d10_443 : DC c10 443 .dup 1 := by decide +kernel
theorem d10_444 : DC c10 444 (.bipush 12) 2 := by decide +kernel
theorem d10_446 : DC c10 446 (.aload_n 0) 1 := by decide +kernel
theorem d10_447 : DC c10 447 (.bipush 12) 2 := by decide +kernel
theorem d10_449 : DC c10 449 .caload 1 := by decide +kernel
theorem d10_450 : DC c10 450 .castore 1 := by decide +kernel
theorem d10_451 : DC c10 451 .dup 1 := by decide +kernel
theorem d10_452 : DC c10 452 (.bipush 13) 2 := by decide +kernel
theorem d10_454 : DC c10 454 (.aload_n 0) 1 := by decide +kernel
theorem d10_455 : DC c10 455 (.bipush 13) 2 := by decide +kernel
theorem d10_457 : DC c10 457 .caload 1 := by decide +kernel
theorem d10_458 : DC c10 458 .castore 1 := by decide +kernel
theorem d10_459 : DC c10 459 .dup 1 := by decide +kernel
theorem d10_460 : DC c10 460 (.bipush 14) 2 := by decide +kernel
theorem d10_462 : DC c10 462 (.aload_n 0) 1 := by decide +kernel
theorem d10_463 : DC c10 463 (.bipush 14) 2 := by decide +kernel
theorem d10_465 : DC c10 465 .caload 1 := by decide +kernel
theorem d10_466 : DC c10 466 .castore 1 := by decide +kernel
theorem d10_467 : DC c10 467 .dup 1 := by decide +kernel
theorem d10_468 : DC c10 468 (.bipush 15) 2 := by decide +kernel
theorem d10_470 : DC c10 470 (.aload_n 0) 1 := by decide +kernel
theorem d10_471 : DC c10 471 (.bipush 15) 2 := by decide +kernel
theorem d10_473 : DC c10 473 .caload 1 := by decide +kernel
theorem d10_474 : DC c10 474 .castore 1 := by decide +kernel
theorem d10_475 : DC c10 475 .dup 1 := by decide +kernel
theorem d10_476 : DC c10 476 (.bipush 16) 2 := by decide +kernel
theorem d10_478 : DC c10 478 (.aload_n 0) 1 := by decide +kernel
theorem d10_479 : DC c10 479 (.bipush 16) 2 := by decide +kernel
theorem d10_481 : DC c10 481 .caload 1 := by decide +kernel
theorem d10_482 : DC c10 482 .castore 1 := by decide +kernel
theorem d10_483 : DC c10 483 .dup 1 := by decide +kernel
theorem d10_484 : DC c10 484 (.bipush 17) 2 := by decide +kernel
theorem d10_486 : DC c10 486 (.aload_n 0) 1 := by decide +kernel
theorem d10_487 : DC c10 487 (.bipush 17) 2 := by decide +kernel
theorem d10_489 : DC c10 489 .caload 1 := by decide +kernel
theorem d10_490 : DC c10 490 .castore 1 := by decide +kernel
theorem d10_491 : DC c10 491 .dup 1 := by decide +kernel
theorem d10_492 : DC c10 492 (.bipush 18) 2 := by decide +kernel
theorem d10_494 : DC c10 494 (.aload_n 0) 1 := by decide +kernel
theorem d10_495 : DC c10 495 (.bipush 18) 2 := by decide +kernel
theorem d10_497 : DC c10 497 .caload 1 := by decide +kernel
theorem d10_498 : DC c10 498 .castore 1 := by decide +kernel
theorem d10_499 : DC c10 499 .dup 1 := by decide +kernel
theorem d10_500 : DC c10 500 (.bipush 19) 2 := by decide +kernel
theorem d10_502 : DC c10 502 (.aload_n 0) 1 := by decide +kernel
theorem d10_503 : DC c10 503 (.bipush 19) 2 := by decide +kernel
theorem d10_505 : DC c10 505 .caload 1 := by decide +kernel
theorem d10_506 : DC c10 506 .castore 1 := by decide +kernel
theorem d10_507 : DC c10 507 .dup 1 := by decide +kernel
theorem d10_508 : DC c10 508 (.bipush 20) 2 := by decide +kernel
theorem d10_510 : DC c10 510 (.aload_n 0) 1 := by decide +kernel
theorem d10_511 : DC c10 511 (.bipush 20) 2 := by decide +kernel
theorem d10_513 : DC c10 513 .caload 1 := by decide +kernel
theorem d10_514 : DC c10 514 .castore 1 := by decide +kernel
theorem d10_515 : DC c10 515 (.invokespecial 54) 3 := by decide +kernel
theorem d10_518 : DC c10 518 .areturn 1 := by decide +kernel
theorem d11_48 : DC c11 48 (.getstatic 71) 3 := by decide +kernel
theorem d11_51 : DC c11 51 .areturn 1 := by decide +kernel
theorem d10_519 : DC c10 519 (.new 43) 3 := by decide +kernel
theorem d10_522 : DC c10 522 .dup 1 := by decide +kernel
theorem d10_523 : DC c10 523 (.aload_n 0) 1 := by decide +kernel
theorem d10_524 : DC c10 524 (.invokespecial 54) 3 := by decide +kernel
theorem d10_527 : DC c10 527 .areturn 1 := by decide +kernel
end Words
theorem ltg_oem (G : GL l Z a0 zc fmt oem vva kvv ku1 ku2 ku3 ku4 su1 tu1 ktu1 su2 tu2 ktu2 su3 tu3 ktu3 su4 tu4 ktu4) {n0 : Nat} {h0 : Heap} (O0 : Old Z n0 h0) : n0 > oem := by have q := O0.1; have r : Z.heap.size > oem := (G.2.2.2.2.2.2.2.1).lt; omega
theorem ltg_vva (G : GL l Z a0 zc fmt oem vva kvv ku1 ku2 ku3 ku4 su1 tu1 ktu1 su2 tu2 ktu2 su3 tu3 ktu3 su4 tu4 ktu4) {n0 : Nat} {h0 : Heap} (O0 : Old Z n0 h0) : n0 > vva := by have q := O0.1; have r : Z.heap.size > vva := (G.2.2.2.2.2.2.2.2.2.2.2.1).lt; omega
theorem ltg_ku1 (G : GL l Z a0 zc fmt oem vva kvv ku1 ku2 ku3 ku4 su1 tu1 ktu1 su2 tu2 ktu2 su3 tu3 ktu3 su4 tu4 ktu4) {n0 : Nat} {h0 : Heap} (O0 : Old Z n0 h0) : n0 > ku1 := by have q := O0.1; have r : Z.heap.size > ku1 := (G.2.2.2.2.2.2.2.2.2.2.2.2.2.1).lt; omega
theorem ltg_su1 (G : GL l Z a0 zc fmt oem vva kvv ku1 ku2 ku3 ku4 su1 tu1 ktu1 su2 tu2 ktu2 su3 tu3 ktu3 su4 tu4 ktu4) {n0 : Nat} {h0 : Heap} (O0 : Old Z n0 h0) : n0 > su1 := by have q := O0.1; have r : Z.heap.size > su1 := (G.2.2.2.2.2.2.2.2.2.2.2.2.2.2.2.1).lt; omega
theorem ltg_tu1 (G : GL l Z a0 zc fmt oem vva kvv ku1 ku2 ku3 ku4 su1 tu1 ktu1 su2 tu2 ktu2 su3 tu3 ktu3 su4 tu4 ktu4) {n0 : Nat} {h0 : Heap} (O0 : Old Z n0 h0) : n0 > tu1 := by have q := O0.1; have r : Z.heap.size > tu1 := (G.2.2.2.2.2.2.2.2.2.2.2.2.2.2.2.2.2.2.1).lt; omega
theorem ltg_ku2 (G : GL l Z a0 zc fmt oem vva kvv ku1 ku2 ku3 ku4 su1 tu1 ktu1 su2 tu2 ktu2 su3 tu3 ktu3 su4 tu4 ktu4) {n0 : Nat} {h0 : Heap} (O0 : Old Z n0 h0) : n0 > ku2 := by have q := O0.1; have r : Z.heap.size > ku2 := (G.2.2.2.2.2.2.2.2.2.2.2.2.2.2.2.2.2.2.2.2.1).lt; omega
theorem ltg_su2 (G : GL l Z a0 zc fmt oem vva kvv ku1 ku2 ku3 ku4 su1 tu1 ktu1 su2 tu2 ktu2 su3 tu3 ktu3 su4 tu4 ktu4) {n0 : Nat} {h0 : Heap} (O0 : Old Z n0 h0) : n0 > su2 := by have q := O0.1; have r : Z.heap.size > su2 := (G.2.2.2.2.2.2.2.2.2.2.2.2.2.2.2.2.2.2.2.2.2.2.1).lt; omega
theorem ltg_tu2 (G : GL l Z a0 zc fmt oem vva kvv ku1 ku2 ku3 ku4 su1 tu1 ktu1 su2 tu2 ktu2 su3 tu3 ktu3 su4 tu4 ktu4) {n0 : Nat} {h0 : Heap} (O0 : Old Z n0 h0) : n0 > tu2 := by have q := O0.1; have r : Z.heap.size > tu2 := (G.2.2.2.2.2.2.2.2.2.2.2.2.2.2.2.2.2.2.2.2.2.2.2.2.2.1).lt; omega
theorem ltg_ku3 (G : GL l Z a0 zc fmt oem vva kvv ku1 ku2 ku3 ku4 su1 tu1 ktu1 su2 tu2 ktu2 su3 tu3 ktu3 su4 tu4 ktu4) {n0 : Nat} {h0 : Heap} (O0 : Old Z n0 h0) : n0 > ku3 := by have q := O0.1; have r : Z.heap.size > ku3 := (G.2.2.2.2.2.2.2.2.2.2.2.2.2.2.2.2.2.2.2.2.2.2.2.2.2.2.2.1).lt; omega
theorem ltg_su3 (G : GL l Z a0 zc fmt oem vva kvv ku1 ku2 ku3 ku4 su1 tu1 ktu1 su2 tu2 ktu2 su3 tu3 ktu3 su4 tu4 ktu4) {n0 : Nat} {h0 : Heap} (O0 : Old Z n0 h0) : n0 > su3 := by have q := O0.1; have r : Z.heap.size > su3 := (G.2.2.2.2.2.2.2.2.2.2.2.2.2.2.2.2.2.2.2.2.2.2.2.2.2.2.2.2.2.1).lt; omega
theorem ltg_tu3 (G : GL l Z a0 zc fmt oem vva kvv ku1 ku2 ku3 ku4 su1 tu1 ktu1 su2 tu2 ktu2 su3 tu3 ktu3 su4 tu4 ktu4) {n0 : Nat} {h0 : Heap} (O0 : Old Z n0 h0) : n0 > tu3 := by have q := O0.1; have r : Z.heap.size > tu3 := (G.2.2.2.2.2.2.2.2.2.2.2.2.2.2.2.2.2.2.2.2.2.2.2.2.2.2.2.2.2.2.2.2.1).lt; omega
theorem ltg_ku4 (G : GL l Z a0 zc fmt oem vva kvv ku1 ku2 ku3 ku4 su1 tu1 ktu1 su2 tu2 ktu2 su3 tu3 ktu3 su4 tu4 ktu4) {n0 : Nat} {h0 : Heap} (O0 : Old Z n0 h0) : n0 > ku4 := by have q := O0.1; have r : Z.heap.size > ku4 := (G.2.2.2.2.2.2.2.2.2.2.2.2.2.2.2.2.2.2.2.2.2.2.2.2.2.2.2.2.2.2.2.2.2.2.1).lt; omega
theorem ltg_su4 (G : GL l Z a0 zc fmt oem vva kvv ku1 ku2 ku3 ku4 su1 tu1 ktu1 su2 tu2 ktu2 su3 tu3 ktu3 su4 tu4 ktu4) {n0 : Nat} {h0 : Heap} (O0 : Old Z n0 h0) : n0 > su4 := by have q := O0.1; have r : Z.heap.size > su4 := (G.2.2.2.2.2.2.2.2.2.2.2.2.2.2.2.2.2.2.2.2.2.2.2.2.2.2.2.2.2.2.2.2.2.2.2.2.1).lt; omega
theorem ltg_tu4 (G : GL l Z a0 zc fmt oem vva kvv ku1 ku2 ku3 ku4 su1 tu1 ktu1 su2 tu2 ktu2 su3 tu3 ktu3 su4 tu4 ktu4) {n0 : Nat} {h0 : Heap} (O0 : Old Z n0 h0) : n0 > tu4 := by have q := O0.1; have r : Z.heap.size > tu4 := (G.2.2.2.2.2.2.2.2.2.2.2.2.2.2.2.2.2.2.2.2.2.2.2.2.2.2.2.2.2.2.2.2.2.2.2.2.2.2.2).lt; omega
variable (G : GL l Z a0 zc fmt oem vva kvv ku1 ku2 ku3 ku4 su1 tu1 ktu1 su2 tu2 ktu2 su3 tu3 ktu3 su4 tu4 ktu4)
variable {h0 : Heap} {n0 : Nat} {pa1 pa2 pa3 pa4 : Addr} {pi1 pi10 pi100 pi101 pi102 pi103 pi104 pi105 pi11 pi12 pi13 pi14 pi15 pi16 pi17 pi18 pi19 pi2 pi20 pi21 pi22 pi23 pi3 pi4 pi5 pi6 pi7 pi8 pi9 : Int32} {pk1 pk2 : ClassId} {ps_pa1 ps_pa2 ps_pa3 ps_pa4 : List Value}
def Q0 (Z : State) (b1 : Int32) (h0 : Heap) (v : Option Value) (h : Heap) (vm : Vm) : Prop := v = some (.int b1)
theorem rm_au0 (pc_k0 : ¬ pi1 < (0 : Int32)) (pc_k1 : pi1 < (4 : Int32)) (r_fmt : fmt.isRef = true) : M2 G 0 0 0 0 #[.int pi1, .int 4, fmt] h0 n0 [] [] (Q0 Z pi1 h0) := by
  refine mi B2 (ef2 r_fmt) (hEW G) fun s X0 hsf0 n0le => ?_
  refine oI 1 X0 d2_0 rfl rfl <| on 4 X0 d2_1 rfl ((if0 _ _).trans (flt pc_k0).1) <| oI 5 X0 d2_4 rfl rfl <| oI 6 X0 d2_5 rfl rfl <| oY 16 X0 d2_6 (by decide) (tlt pc_k1).1 <| oI 17 X0 d2_16 rfl rfl ?_
  exact o_iret X0 d2_17 rfl (by decide) (by decide) (fun _ CC => rfl)
def Q1 (Z : State) (h0 : Heap) (v : Option Value) (h : Heap) (vm : Vm) : Prop := v = none
theorem rm_au1 (pc_k0 : ¬ pi1 < (0 : Int32)) (pc_k1 : pi1 < (4 : Int32)) : M1 G 1 0 0 14 #[.int pi1, .int 4] h0 n0 [] [] (Q1 Z  h0) := by
  refine mi B1 ef1 (hEW G) fun s X0 hsf0 n0le => ?_
  refine oI 1 X0 d1_0 rfl rfl <| oI 2 X0 d1_1 rfl rfl <| oG 5 X0 (w44 G) Via.refl ((sg16 G).ext X0.old.2) d1_2 rfl ?_
  intro _ X2
  refine mS 8 0 X2 (rm_au0 G pc_k0 pc_k1 (hfmt G)) (u0 G) all0 d1_5 rfl rfl rfl lr (by decide) all0 ?_
  rintro _ _ _ _ X3 rfl _ _ _
  refine o_pop 9 X3 d1_8 rfl rfl ?_
  exact oz X3 d1_9 rfl (by decide) (by decide) (fun _ CC => rfl)
def Q2 (Z : State) (h0 : Heap) (v : Option Value) (h : Heap) (vm : Vm) : Prop := ∃ (xi1 : Int32), v = some (.int xi1) ∧ ¬ xi1 < 0 ∧ ¬ (255 : Int32) < xi1
theorem rm_chL_u (F0 : av0 Z h0 pa1 pk1 4 [.int 117, .int 115, .int 101, .int 114]) (pc_0 : ¬ pi1 < (0 : Int32)) (pc_1 : pi1 < (4 : Int32)) : M0 G 2 0 0 27 #[.ref pa1, .int pi1] h0 n0 [] [] (Q2 Z  h0) := by
  refine mi B0 ef0 (hEW G) fun s X0 hsf0 n0le => ?_
  have := F0.l
  refine oI 1 X0 d0_0 rfl rfl <| oA 2 X0 d0_1 rfl rfl <| oL 3 X0 F0 d0_2 rfl <| mS 6 0 X0 (rm_au1 G pc_0 pc_1) (u1 G) all0 d0_3 rfl rfl rfl lr (by decide) all0 ?_
  rintro _ _ _ _ X1 rfl K1 _ _
  refine oA 7 X1 d0_6 rfl rfl <| oI 8 X1 d0_7 rfl rfl ?_
  have f2 := F0.k0 K1
  refine oB 9 (v := (.int (([117, 115, 101, 114] : List Int32).getD pi1.toNatClampNeg 0))) X1 f2 ⟨pc_0, pc_1⟩ (own_getI ([117, 115, 101, 114] : List Int32) _) d0_8 rfl <| o_sipush 12 (v := 255) X1 d0_9 rfl (by decide) <| o_iand 13 (v := ((([117, 115, 101, 114] : List Int32).getD pi1.toNatClampNeg 0) &&& (255 : Int32))) X1 d0_12 rfl rfl ?_
  obtain ⟨c3, ce4⟩ : ∃ z : Int32, ((([117, 115, 101, 114] : List Int32).getD pi1.toNatClampNeg 0) &&& (255 : Int32)).toUInt32.toUInt16.toUInt32.toInt32 = z := ⟨_, rfl⟩
  have cr5 := own_c255 _ _ ce4
  refine o_i2c 14 (v := c3) X1 d0_13 rfl ce4 ?_
  exact o_nret (y := c3) (t := .char) X1 d0_14 rfl (own_narC cr5) (by simp) (by decide) (by decide) (fun _ CC => ⟨c3, rfl, cr5⟩)
def Q3 (Z : State) (h0 : Heap) (v : Option Value) (h : Heap) (vm : Vm) : Prop := v = some (.int 1)
theorem rm_au2 (F0 : fd0 Z h0 pa1 (.int pi100)) (pc_0 : pi100 = (0 : Int32)) : M4 G 0 0 0 0 #[.ref pa1] h0 n0 [] [] (Q3 Z  h0) := by
  refine mi B4 ef3 (hEW G) fun s X0 hsf0 n0le => ?_
  have := F0.l
  refine oG 3 X0 (w25 G) Via.refl ((sg15 G).ext X0.old.2) d4_0 rfl ?_
  intro _ X2
  refine on 6 X2 d4_3 rfl ((if0 _ _).trans (feq (hzc G)).1) <| oA 7 X2 d4_6 rfl rfl <| oF 10 X2 (w26 G) Via.refl F0 d4_7 rfl ?_
  intro _ X4
  refine on 13 X4 d4_10 rfl ((if0 _ _).trans (teq pc_0).2) <| oc 14 (v := 1) X4 d4_13 rfl (by decide) <| og 18 X4 d4_14 (by decide) ?_
  exact o_nret (y := (1 : Int32)) (t := .boolean) X4 d4_18 rfl (by decide) (by simp) (by decide) (by decide) (fun _ CC => rfl)
theorem rm_chS_u (F0 : ex0 Z h0 pa1) (F1 : fd0 Z h0 pa1 (.int 0)) (F2 : fd1 Z h0 pa1 (.ref pa2)) (F3 : av0 Z h0 pa2 pk1 4 [.int 117, .int 115, .int 101, .int 114]) (pc_0 : ¬ pi1 < (0 : Int32)) (pc_1 : pi1 < (4 : Int32)) : M3 G 3 0 0 40 #[.ref pa1, .int pi1] h0 n0 [] [] (Q2 Z  h0) := by
  refine mi B3 ef0 (hEW G) fun s X0 hsf0 n0le => ?_
  have := F0.l
  have := F3.l
  refine oA 1 X0 d3_0 rfl rfl <| mV 4 0 X0 F0 (rm_au2 G F1 (by decide)) (u2 G) all0 d3_1 rfl rfl rfl lr (by decide) all0 ?_
  rintro _ _ _ _ X1 rfl K1 _ _
  refine on 7 X1 d3_4 rfl ((if0 _ _).trans (feq (by decide)).1) <| oA 8 X1 d3_7 rfl rfl ?_
  have f2 := F2.k0 K1
  refine oF 11 X1 (w19 G) Via.refl f2 d3_8 rfl ?_
  intro _ X4
  refine oI 12 X4 d3_11 rfl rfl ?_
  have f5 := F3.k0 K1
  refine mS 15 0 X4 (rm_chL_u G f5 pc_0 pc_1) (u3 G) all0 d3_12 rfl rfl rfl lr (by decide) all0 ?_
  rintro _ _ _ _ X6 ⟨xi1_7, rfl, q8⟩ _ _ _
  exact o_nret (y := xi1_7) (t := .char) X6 d3_15 rfl (own_narC q8) (by simp) (by decide) (by decide) (fun _ CC => ⟨xi1_7, rfl, q8⟩)
def Q4 (Z : State) (h0 : Heap) (v : Option Value) (h : Heap) (vm : Vm) : Prop := v = some (.int 0)
theorem rm_au3 (F0 : fd0 Z h0 pa1 (.int 0)) : M7 G 0 0 0 0 #[.ref pa1] h0 n0 [] [] (Q4 Z  h0) := by
  refine mi B7 ef3 (hEW G) fun s X0 hsf0 n0le => ?_
  have := F0.l
  refine oG 3 X0 (w25 G) Via.refl ((sg15 G).ext X0.old.2) d7_0 rfl ?_
  intro _ X2
  refine on 6 X2 d7_3 rfl ((if0 _ _).trans (feq (hzc G)).1) <| oA 7 X2 d7_6 rfl rfl <| oF 10 X2 (w26 G) Via.refl F0 d7_7 rfl ?_
  intro _ X4
  refine og 14 X4 d7_10 (by decide) ?_
  exact o_nret (y := (0 : Int32)) (t := .byte) X4 d7_14 rfl (by decide) (by simp) (by decide) (by decide) (fun _ CC => rfl)
def Q5 (Z : State) (h0 : Heap) (v : Option Value) (h : Heap) (vm : Vm) : Prop := v = some (.int 4)
theorem rm_au4 (F0 : ex0 Z h0 pa1) (F1 : fd0 Z h0 pa1 (.int 0)) (F2 : fd1 Z h0 pa1 (.ref pa2)) (F3 : av0 Z h0 pa2 pk1 4 ps_pa2) : M6 G 1 0 0 13 #[.ref pa1] h0 n0 [] [] (Q5 Z  h0) := by
  refine mi B6 ef3 (hEW G) fun s X0 hsf0 n0le => ?_
  have := F0.l
  have := F3.l
  refine oA 1 X0 d6_0 rfl rfl <| oF 4 X0 (w19 G) Via.refl F2 d6_1 rfl ?_
  intro _ X2
  refine oL 5 X2 F3 d6_4 rfl <| oA 6 X2 d6_5 rfl rfl <| mV 9 1 X2 F0 (rm_au3 G F1) (u4 G) all0 d6_6 rfl rfl rfl lr (by decide) all0 ?_
  rintro _ _ _ _ X3 rfl _ _ _
  refine o_ishr 10 (v := 4) X3 d6_9 rfl (by decide) ?_
  exact o_iret X3 d6_10 rfl (by decide) (by decide) (fun _ CC => rfl)
theorem rm_ch_u0 (F0 : ex0 Z h0 pa1) (F1 : fd0 Z h0 pa1 (.int 0)) (F2 : fd1 Z h0 pa1 (.ref pa2)) (F3 : av0 Z h0 pa2 pk1 4 [.int 117, .int 115, .int 101, .int 114]) (pc_0 : ¬ pi1 < (0 : Int32)) (pc_1 : pi1 < (4 : Int32)) : M5 G 4 0 0 53 #[.ref pa1, .int pi1, .int pi2, .int pi3, .int pi4, .int pi5] h0 n0 [] [] (Q2 Z  h0) := by
  refine mi B5 ef4 (hEW G) fun s X0 hsf0 n0le => ?_
  have := F0.l
  have := F3.l
  refine oi 2 X0 d5_0 rfl rfl ?_
  by_cases hc1 : pi5 = (0 : Int32)
  · refine oy 17 X0 d5_2 (by decide) ((if0 _ _).trans (teq hc1).1) <| oI 18 X0 d5_17 rfl rfl <| oA 19 X0 d5_18 rfl rfl <| mV 22 1 X0 F0 (rm_au4 G F0 F1 F2 F3) (u5 G) all0 d5_19 rfl rfl rfl lr (by decide) all0 ?_
    rintro _ _ _ _ X2 rfl K2 _ _
    refine oN 25 X2 d5_22 rfl (tlt pc_1).2.1 <| oA 26 X2 d5_25 rfl rfl <| oI 27 X2 d5_26 rfl rfl ?_
    have f3 := F0.keep K2
    have f4 := F1.k0 K2
    have f5 := F2.k0 K2
    have f6 := F3.k0 K2
    refine mV 30 0 X2 f3 (rm_chS_u G f3 f4 f5 f6 pc_0 pc_1) (u6 G) all0 d5_27 rfl rfl rfl lr (by decide) all0 ?_
    rintro _ _ _ _ X7 ⟨xi1_8, rfl, q9⟩ _ _ _
    exact o_nret (y := xi1_8) (t := .char) X7 d5_30 rfl (own_narC q9) (by simp) (by decide) (by decide) (fun _ CC => ⟨xi1_8, rfl, q9⟩)
  · refine on 5 X0 d5_2 rfl ((if0 _ _).trans (feq hc1).1) <| oI 6 X0 d5_5 rfl rfl <| oI 7 X0 d5_6 rfl rfl ?_
    by_cases hc10 : pi1 = pi2
    · refine oN 10 X0 d5_7 rfl (teq hc10).2 <| oI 11 X0 d5_10 rfl rfl <| o_sipush 14 (v := 255) X0 d5_11 rfl (by decide) <| o_iand 15 (v := (pi3 &&& (255 : Int32))) X0 d5_14 rfl rfl ?_
      obtain ⟨c11, ce12⟩ : ∃ z : Int32, (pi3 &&& (255 : Int32)).toUInt32.toUInt16.toUInt32.toInt32 = z := ⟨_, rfl⟩
      have cr13 := own_c255 _ _ ce12
      refine o_i2c 16 (v := c11) X0 d5_15 rfl ce12 ?_
      exact o_nret (y := c11) (t := .char) X0 d5_16 rfl (own_narC cr13) (by simp) (by decide) (by decide) (fun _ CC => ⟨c11, rfl, cr13⟩)
    · refine oY 17 X0 d5_7 (by decide) (feq hc10).2 <| oI 18 X0 d5_17 rfl rfl <| oA 19 X0 d5_18 rfl rfl <| mV 22 1 X0 F0 (rm_au4 G F0 F1 F2 F3) (u5 G) all0 d5_19 rfl rfl rfl lr (by decide) all0 ?_
      rintro _ _ _ _ X14 rfl K14 _ _
      refine oN 25 X14 d5_22 rfl (tlt pc_1).2.1 <| oA 26 X14 d5_25 rfl rfl <| oI 27 X14 d5_26 rfl rfl ?_
      have f15 := F0.keep K14
      have f16 := F1.k0 K14
      have f17 := F2.k0 K14
      have f18 := F3.k0 K14
      refine mV 30 0 X14 f15 (rm_chS_u G f15 f16 f17 f18 pc_0 pc_1) (u6 G) all0 d5_27 rfl rfl rfl lr (by decide) all0 ?_
      rintro _ _ _ _ X19 ⟨xi1_20, rfl, q21⟩ _ _ _
      exact o_nret (y := xi1_20) (t := .char) X19 d5_30 rfl (own_narC q21) (by simp) (by decide) (by decide) (fun _ CC => ⟨xi1_20, rfl, q21⟩)
theorem rm_ch_u1 (F0 : ex0 Z h0 pa1) (F1 : fd0 Z h0 pa1 (.int 0)) (F2 : fd1 Z h0 pa1 (.ref pa2)) (F3 : av0 Z h0 pa2 pk1 4 [.int 117, .int 115, .int 101, .int 114]) (pc_0 : ¬ pi1 < (4 : Int32)) : M5 G 2 0 0 26 #[.ref pa1, .int pi1, .int pi2, .int pi3, .int pi4, .int pi5] h0 n0 [] [] (Q2 Z  h0) := by
  refine mi B5 ef4 (hEW G) fun s X0 hsf0 n0le => ?_
  have := F0.l
  have := F3.l
  refine oi 2 X0 d5_0 rfl rfl ?_
  by_cases hc1 : pi5 = (0 : Int32)
  · refine oy 17 X0 d5_2 (by decide) ((if0 _ _).trans (teq hc1).1) <| oI 18 X0 d5_17 rfl rfl <| oA 19 X0 d5_18 rfl rfl <| mV 22 1 X0 F0 (rm_au4 G F0 F1 F2 F3) (u5 G) all0 d5_19 rfl rfl rfl lr (by decide) all0 ?_
    rintro _ _ _ _ X2 rfl _ _ _
    refine oY 31 X2 d5_22 (by decide) (flt pc_0).2.1 <| oi 33 X2 d5_31 rfl rfl <| o_sipush 36 (v := 255) X2 d5_33 rfl (by decide) <| o_iand 37 (v := (pi4 &&& (255 : Int32))) X2 d5_36 rfl rfl ?_
    obtain ⟨c3, ce4⟩ : ∃ z : Int32, (pi4 &&& (255 : Int32)).toUInt32.toUInt16.toUInt32.toInt32 = z := ⟨_, rfl⟩
    have cr5 := own_c255 _ _ ce4
    refine o_i2c 38 (v := c3) X2 d5_37 rfl ce4 ?_
    exact o_nret (y := c3) (t := .char) X2 d5_38 rfl (own_narC cr5) (by simp) (by decide) (by decide) (fun _ CC => ⟨c3, rfl, cr5⟩)
  · refine on 5 X0 d5_2 rfl ((if0 _ _).trans (feq hc1).1) <| oI 6 X0 d5_5 rfl rfl <| oI 7 X0 d5_6 rfl rfl ?_
    by_cases hc6 : pi1 = pi2
    · refine oN 10 X0 d5_7 rfl (teq hc6).2 <| oI 11 X0 d5_10 rfl rfl <| o_sipush 14 (v := 255) X0 d5_11 rfl (by decide) <| o_iand 15 (v := (pi3 &&& (255 : Int32))) X0 d5_14 rfl rfl ?_
      obtain ⟨c7, ce8⟩ : ∃ z : Int32, (pi3 &&& (255 : Int32)).toUInt32.toUInt16.toUInt32.toInt32 = z := ⟨_, rfl⟩
      have cr9 := own_c255 _ _ ce8
      refine o_i2c 16 (v := c7) X0 d5_15 rfl ce8 ?_
      exact o_nret (y := c7) (t := .char) X0 d5_16 rfl (own_narC cr9) (by simp) (by decide) (by decide) (fun _ CC => ⟨c7, rfl, cr9⟩)
    · refine oY 17 X0 d5_7 (by decide) (feq hc6).2 <| oI 18 X0 d5_17 rfl rfl <| oA 19 X0 d5_18 rfl rfl <| mV 22 1 X0 F0 (rm_au4 G F0 F1 F2 F3) (u5 G) all0 d5_19 rfl rfl rfl lr (by decide) all0 ?_
      rintro _ _ _ _ X10 rfl _ _ _
      refine oY 31 X10 d5_22 (by decide) (flt pc_0).2.1 <| oi 33 X10 d5_31 rfl rfl <| o_sipush 36 (v := 255) X10 d5_33 rfl (by decide) <| o_iand 37 (v := (pi4 &&& (255 : Int32))) X10 d5_36 rfl rfl ?_
      obtain ⟨c11, ce12⟩ : ∃ z : Int32, (pi4 &&& (255 : Int32)).toUInt32.toUInt16.toUInt32.toInt32 = z := ⟨_, rfl⟩
      have cr13 := own_c255 _ _ ce12
      refine o_i2c 38 (v := c11) X10 d5_37 rfl ce12 ?_
      exact o_nret (y := c11) (t := .char) X10 d5_38 rfl (own_narC cr13) (by simp) (by decide) (by decide) (fun _ CC => ⟨c11, rfl, cr13⟩)
theorem rm_chL_r (F0 : av0 Z h0 pa1 pk1 4 [.int 114, .int 111, .int 108, .int 101]) (pc_0 : ¬ pi1 < (0 : Int32)) (pc_1 : pi1 < (4 : Int32)) : M0 G 2 0 0 27 #[.ref pa1, .int pi1] h0 n0 [] [] (Q2 Z  h0) := by
  refine mi B0 ef0 (hEW G) fun s X0 hsf0 n0le => ?_
  have := F0.l
  refine oI 1 X0 d0_0 rfl rfl <| oA 2 X0 d0_1 rfl rfl <| oL 3 X0 F0 d0_2 rfl <| mS 6 0 X0 (rm_au1 G pc_0 pc_1) (u1 G) all0 d0_3 rfl rfl rfl lr (by decide) all0 ?_
  rintro _ _ _ _ X1 rfl K1 _ _
  refine oA 7 X1 d0_6 rfl rfl <| oI 8 X1 d0_7 rfl rfl ?_
  have f2 := F0.k0 K1
  refine oB 9 (v := (.int (([114, 111, 108, 101] : List Int32).getD pi1.toNatClampNeg 0))) X1 f2 ⟨pc_0, pc_1⟩ (own_getI ([114, 111, 108, 101] : List Int32) _) d0_8 rfl <| o_sipush 12 (v := 255) X1 d0_9 rfl (by decide) <| o_iand 13 (v := ((([114, 111, 108, 101] : List Int32).getD pi1.toNatClampNeg 0) &&& (255 : Int32))) X1 d0_12 rfl rfl ?_
  obtain ⟨c3, ce4⟩ : ∃ z : Int32, ((([114, 111, 108, 101] : List Int32).getD pi1.toNatClampNeg 0) &&& (255 : Int32)).toUInt32.toUInt16.toUInt32.toInt32 = z := ⟨_, rfl⟩
  have cr5 := own_c255 _ _ ce4
  refine o_i2c 14 (v := c3) X1 d0_13 rfl ce4 ?_
  exact o_nret (y := c3) (t := .char) X1 d0_14 rfl (own_narC cr5) (by simp) (by decide) (by decide) (fun _ CC => ⟨c3, rfl, cr5⟩)
theorem rm_chS_r (F0 : ex0 Z h0 pa1) (F1 : fd0 Z h0 pa1 (.int 0)) (F2 : fd1 Z h0 pa1 (.ref pa2)) (F3 : av0 Z h0 pa2 pk1 4 [.int 114, .int 111, .int 108, .int 101]) (pc_0 : ¬ pi1 < (0 : Int32)) (pc_1 : pi1 < (4 : Int32)) : M3 G 3 0 0 40 #[.ref pa1, .int pi1] h0 n0 [] [] (Q2 Z  h0) := by
  refine mi B3 ef0 (hEW G) fun s X0 hsf0 n0le => ?_
  have := F0.l
  have := F3.l
  refine oA 1 X0 d3_0 rfl rfl <| mV 4 0 X0 F0 (rm_au2 G F1 (by decide)) (u2 G) all0 d3_1 rfl rfl rfl lr (by decide) all0 ?_
  rintro _ _ _ _ X1 rfl K1 _ _
  refine on 7 X1 d3_4 rfl ((if0 _ _).trans (feq (by decide)).1) <| oA 8 X1 d3_7 rfl rfl ?_
  have f2 := F2.k0 K1
  refine oF 11 X1 (w19 G) Via.refl f2 d3_8 rfl ?_
  intro _ X4
  refine oI 12 X4 d3_11 rfl rfl ?_
  have f5 := F3.k0 K1
  refine mS 15 0 X4 (rm_chL_r G f5 pc_0 pc_1) (u3 G) all0 d3_12 rfl rfl rfl lr (by decide) all0 ?_
  rintro _ _ _ _ X6 ⟨xi1_7, rfl, q8⟩ _ _ _
  exact o_nret (y := xi1_7) (t := .char) X6 d3_15 rfl (own_narC q8) (by simp) (by decide) (by decide) (fun _ CC => ⟨xi1_7, rfl, q8⟩)
theorem rm_ch_r0 (F0 : ex0 Z h0 pa1) (F1 : fd0 Z h0 pa1 (.int 0)) (F2 : fd1 Z h0 pa1 (.ref pa2)) (F3 : av0 Z h0 pa2 pk1 4 [.int 114, .int 111, .int 108, .int 101]) (pc_0 : ¬ pi1 < (0 : Int32)) (pc_1 : pi1 < (4 : Int32)) : M5 G 4 0 0 53 #[.ref pa1, .int pi1, .int pi2, .int pi3, .int pi4, .int pi5] h0 n0 [] [] (Q2 Z  h0) := by
  refine mi B5 ef4 (hEW G) fun s X0 hsf0 n0le => ?_
  have := F0.l
  have := F3.l
  refine oi 2 X0 d5_0 rfl rfl ?_
  by_cases hc1 : pi5 = (0 : Int32)
  · refine oy 17 X0 d5_2 (by decide) ((if0 _ _).trans (teq hc1).1) <| oI 18 X0 d5_17 rfl rfl <| oA 19 X0 d5_18 rfl rfl <| mV 22 1 X0 F0 (rm_au4 G F0 F1 F2 F3) (u5 G) all0 d5_19 rfl rfl rfl lr (by decide) all0 ?_
    rintro _ _ _ _ X2 rfl K2 _ _
    refine oN 25 X2 d5_22 rfl (tlt pc_1).2.1 <| oA 26 X2 d5_25 rfl rfl <| oI 27 X2 d5_26 rfl rfl ?_
    have f3 := F0.keep K2
    have f4 := F1.k0 K2
    have f5 := F2.k0 K2
    have f6 := F3.k0 K2
    refine mV 30 0 X2 f3 (rm_chS_r G f3 f4 f5 f6 pc_0 pc_1) (u6 G) all0 d5_27 rfl rfl rfl lr (by decide) all0 ?_
    rintro _ _ _ _ X7 ⟨xi1_8, rfl, q9⟩ _ _ _
    exact o_nret (y := xi1_8) (t := .char) X7 d5_30 rfl (own_narC q9) (by simp) (by decide) (by decide) (fun _ CC => ⟨xi1_8, rfl, q9⟩)
  · refine on 5 X0 d5_2 rfl ((if0 _ _).trans (feq hc1).1) <| oI 6 X0 d5_5 rfl rfl <| oI 7 X0 d5_6 rfl rfl ?_
    by_cases hc10 : pi1 = pi2
    · refine oN 10 X0 d5_7 rfl (teq hc10).2 <| oI 11 X0 d5_10 rfl rfl <| o_sipush 14 (v := 255) X0 d5_11 rfl (by decide) <| o_iand 15 (v := (pi3 &&& (255 : Int32))) X0 d5_14 rfl rfl ?_
      obtain ⟨c11, ce12⟩ : ∃ z : Int32, (pi3 &&& (255 : Int32)).toUInt32.toUInt16.toUInt32.toInt32 = z := ⟨_, rfl⟩
      have cr13 := own_c255 _ _ ce12
      refine o_i2c 16 (v := c11) X0 d5_15 rfl ce12 ?_
      exact o_nret (y := c11) (t := .char) X0 d5_16 rfl (own_narC cr13) (by simp) (by decide) (by decide) (fun _ CC => ⟨c11, rfl, cr13⟩)
    · refine oY 17 X0 d5_7 (by decide) (feq hc10).2 <| oI 18 X0 d5_17 rfl rfl <| oA 19 X0 d5_18 rfl rfl <| mV 22 1 X0 F0 (rm_au4 G F0 F1 F2 F3) (u5 G) all0 d5_19 rfl rfl rfl lr (by decide) all0 ?_
      rintro _ _ _ _ X14 rfl K14 _ _
      refine oN 25 X14 d5_22 rfl (tlt pc_1).2.1 <| oA 26 X14 d5_25 rfl rfl <| oI 27 X14 d5_26 rfl rfl ?_
      have f15 := F0.keep K14
      have f16 := F1.k0 K14
      have f17 := F2.k0 K14
      have f18 := F3.k0 K14
      refine mV 30 0 X14 f15 (rm_chS_r G f15 f16 f17 f18 pc_0 pc_1) (u6 G) all0 d5_27 rfl rfl rfl lr (by decide) all0 ?_
      rintro _ _ _ _ X19 ⟨xi1_20, rfl, q21⟩ _ _ _
      exact o_nret (y := xi1_20) (t := .char) X19 d5_30 rfl (own_narC q21) (by simp) (by decide) (by decide) (fun _ CC => ⟨xi1_20, rfl, q21⟩)
theorem rm_ch_r1 (F0 : ex0 Z h0 pa1) (F1 : fd0 Z h0 pa1 (.int 0)) (F2 : fd1 Z h0 pa1 (.ref pa2)) (F3 : av0 Z h0 pa2 pk1 4 [.int 114, .int 111, .int 108, .int 101]) (pc_0 : ¬ pi1 < (4 : Int32)) : M5 G 2 0 0 26 #[.ref pa1, .int pi1, .int pi2, .int pi3, .int pi4, .int pi5] h0 n0 [] [] (Q2 Z  h0) := by
  refine mi B5 ef4 (hEW G) fun s X0 hsf0 n0le => ?_
  have := F0.l
  have := F3.l
  refine oi 2 X0 d5_0 rfl rfl ?_
  by_cases hc1 : pi5 = (0 : Int32)
  · refine oy 17 X0 d5_2 (by decide) ((if0 _ _).trans (teq hc1).1) <| oI 18 X0 d5_17 rfl rfl <| oA 19 X0 d5_18 rfl rfl <| mV 22 1 X0 F0 (rm_au4 G F0 F1 F2 F3) (u5 G) all0 d5_19 rfl rfl rfl lr (by decide) all0 ?_
    rintro _ _ _ _ X2 rfl _ _ _
    refine oY 31 X2 d5_22 (by decide) (flt pc_0).2.1 <| oi 33 X2 d5_31 rfl rfl <| o_sipush 36 (v := 255) X2 d5_33 rfl (by decide) <| o_iand 37 (v := (pi4 &&& (255 : Int32))) X2 d5_36 rfl rfl ?_
    obtain ⟨c3, ce4⟩ : ∃ z : Int32, (pi4 &&& (255 : Int32)).toUInt32.toUInt16.toUInt32.toInt32 = z := ⟨_, rfl⟩
    have cr5 := own_c255 _ _ ce4
    refine o_i2c 38 (v := c3) X2 d5_37 rfl ce4 ?_
    exact o_nret (y := c3) (t := .char) X2 d5_38 rfl (own_narC cr5) (by simp) (by decide) (by decide) (fun _ CC => ⟨c3, rfl, cr5⟩)
  · refine on 5 X0 d5_2 rfl ((if0 _ _).trans (feq hc1).1) <| oI 6 X0 d5_5 rfl rfl <| oI 7 X0 d5_6 rfl rfl ?_
    by_cases hc6 : pi1 = pi2
    · refine oN 10 X0 d5_7 rfl (teq hc6).2 <| oI 11 X0 d5_10 rfl rfl <| o_sipush 14 (v := 255) X0 d5_11 rfl (by decide) <| o_iand 15 (v := (pi3 &&& (255 : Int32))) X0 d5_14 rfl rfl ?_
      obtain ⟨c7, ce8⟩ : ∃ z : Int32, (pi3 &&& (255 : Int32)).toUInt32.toUInt16.toUInt32.toInt32 = z := ⟨_, rfl⟩
      have cr9 := own_c255 _ _ ce8
      refine o_i2c 16 (v := c7) X0 d5_15 rfl ce8 ?_
      exact o_nret (y := c7) (t := .char) X0 d5_16 rfl (own_narC cr9) (by simp) (by decide) (by decide) (fun _ CC => ⟨c7, rfl, cr9⟩)
    · refine oY 17 X0 d5_7 (by decide) (feq hc6).2 <| oI 18 X0 d5_17 rfl rfl <| oA 19 X0 d5_18 rfl rfl <| mV 22 1 X0 F0 (rm_au4 G F0 F1 F2 F3) (u5 G) all0 d5_19 rfl rfl rfl lr (by decide) all0 ?_
      rintro _ _ _ _ X10 rfl _ _ _
      refine oY 31 X10 d5_22 (by decide) (flt pc_0).2.1 <| oi 33 X10 d5_31 rfl rfl <| o_sipush 36 (v := 255) X10 d5_33 rfl (by decide) <| o_iand 37 (v := (pi4 &&& (255 : Int32))) X10 d5_36 rfl rfl ?_
      obtain ⟨c11, ce12⟩ : ∃ z : Int32, (pi4 &&& (255 : Int32)).toUInt32.toUInt16.toUInt32.toInt32 = z := ⟨_, rfl⟩
      have cr13 := own_c255 _ _ ce12
      refine o_i2c 38 (v := c11) X10 d5_37 rfl ce12 ?_
      exact o_nret (y := c11) (t := .char) X10 d5_38 rfl (own_narC cr13) (by simp) (by decide) (by decide) (fun _ CC => ⟨c11, rfl, cr13⟩)
theorem rm_au5 (pc_k0 : ¬ pi1 < (0 : Int32)) (pc_k1 : pi1 < (5 : Int32)) (r_fmt : fmt.isRef = true) : M2 G 0 0 0 0 #[.int pi1, .int 5, fmt] h0 n0 [] [] (Q0 Z pi1 h0) := by
  refine mi B2 (ef2 r_fmt) (hEW G) fun s X0 hsf0 n0le => ?_
  refine oI 1 X0 d2_0 rfl rfl <| on 4 X0 d2_1 rfl ((if0 _ _).trans (flt pc_k0).1) <| oI 5 X0 d2_4 rfl rfl <| oI 6 X0 d2_5 rfl rfl <| oY 16 X0 d2_6 (by decide) (tlt pc_k1).1 <| oI 17 X0 d2_16 rfl rfl ?_
  exact o_iret X0 d2_17 rfl (by decide) (by decide) (fun _ CC => rfl)
theorem rm_au6 (pc_k0 : ¬ pi1 < (0 : Int32)) (pc_k1 : pi1 < (5 : Int32)) : M1 G 1 0 0 14 #[.int pi1, .int 5] h0 n0 [] [] (Q1 Z  h0) := by
  refine mi B1 ef1 (hEW G) fun s X0 hsf0 n0le => ?_
  refine oI 1 X0 d1_0 rfl rfl <| oI 2 X0 d1_1 rfl rfl <| oG 5 X0 (w44 G) Via.refl ((sg16 G).ext X0.old.2) d1_2 rfl ?_
  intro _ X2
  refine mS 8 0 X2 (rm_au5 G pc_k0 pc_k1 (hfmt G)) (u0 G) all0 d1_5 rfl rfl rfl lr (by decide) all0 ?_
  rintro _ _ _ _ X3 rfl _ _ _
  refine o_pop 9 X3 d1_8 rfl rfl ?_
  exact oz X3 d1_9 rfl (by decide) (by decide) (fun _ CC => rfl)
theorem rm_chL_g (F0 : av0 Z h0 pa1 pk1 5 [.int 103, .int 114, .int 111, .int 117, .int 112]) (pc_0 : ¬ pi1 < (0 : Int32)) (pc_1 : pi1 < (5 : Int32)) : M0 G 2 0 0 27 #[.ref pa1, .int pi1] h0 n0 [] [] (Q2 Z  h0) := by
  refine mi B0 ef0 (hEW G) fun s X0 hsf0 n0le => ?_
  have := F0.l
  refine oI 1 X0 d0_0 rfl rfl <| oA 2 X0 d0_1 rfl rfl <| oL 3 X0 F0 d0_2 rfl <| mS 6 0 X0 (rm_au6 G pc_0 pc_1) (u1 G) all0 d0_3 rfl rfl rfl lr (by decide) all0 ?_
  rintro _ _ _ _ X1 rfl K1 _ _
  refine oA 7 X1 d0_6 rfl rfl <| oI 8 X1 d0_7 rfl rfl ?_
  have f2 := F0.k0 K1
  refine oB 9 (v := (.int (([103, 114, 111, 117, 112] : List Int32).getD pi1.toNatClampNeg 0))) X1 f2 ⟨pc_0, pc_1⟩ (own_getI ([103, 114, 111, 117, 112] : List Int32) _) d0_8 rfl <| o_sipush 12 (v := 255) X1 d0_9 rfl (by decide) <| o_iand 13 (v := ((([103, 114, 111, 117, 112] : List Int32).getD pi1.toNatClampNeg 0) &&& (255 : Int32))) X1 d0_12 rfl rfl ?_
  obtain ⟨c3, ce4⟩ : ∃ z : Int32, ((([103, 114, 111, 117, 112] : List Int32).getD pi1.toNatClampNeg 0) &&& (255 : Int32)).toUInt32.toUInt16.toUInt32.toInt32 = z := ⟨_, rfl⟩
  have cr5 := own_c255 _ _ ce4
  refine o_i2c 14 (v := c3) X1 d0_13 rfl ce4 ?_
  exact o_nret (y := c3) (t := .char) X1 d0_14 rfl (own_narC cr5) (by simp) (by decide) (by decide) (fun _ CC => ⟨c3, rfl, cr5⟩)
theorem rm_chS_g (F0 : ex0 Z h0 pa1) (F1 : fd0 Z h0 pa1 (.int 0)) (F2 : fd1 Z h0 pa1 (.ref pa2)) (F3 : av0 Z h0 pa2 pk1 5 [.int 103, .int 114, .int 111, .int 117, .int 112]) (pc_0 : ¬ pi1 < (0 : Int32)) (pc_1 : pi1 < (5 : Int32)) : M3 G 3 0 0 40 #[.ref pa1, .int pi1] h0 n0 [] [] (Q2 Z  h0) := by
  refine mi B3 ef0 (hEW G) fun s X0 hsf0 n0le => ?_
  have := F0.l
  have := F3.l
  refine oA 1 X0 d3_0 rfl rfl <| mV 4 0 X0 F0 (rm_au2 G F1 (by decide)) (u2 G) all0 d3_1 rfl rfl rfl lr (by decide) all0 ?_
  rintro _ _ _ _ X1 rfl K1 _ _
  refine on 7 X1 d3_4 rfl ((if0 _ _).trans (feq (by decide)).1) <| oA 8 X1 d3_7 rfl rfl ?_
  have f2 := F2.k0 K1
  refine oF 11 X1 (w19 G) Via.refl f2 d3_8 rfl ?_
  intro _ X4
  refine oI 12 X4 d3_11 rfl rfl ?_
  have f5 := F3.k0 K1
  refine mS 15 0 X4 (rm_chL_g G f5 pc_0 pc_1) (u3 G) all0 d3_12 rfl rfl rfl lr (by decide) all0 ?_
  rintro _ _ _ _ X6 ⟨xi1_7, rfl, q8⟩ _ _ _
  exact o_nret (y := xi1_7) (t := .char) X6 d3_15 rfl (own_narC q8) (by simp) (by decide) (by decide) (fun _ CC => ⟨xi1_7, rfl, q8⟩)
def Q6 (Z : State) (h0 : Heap) (v : Option Value) (h : Heap) (vm : Vm) : Prop := v = some (.int 5)
theorem rm_au7 (F0 : ex0 Z h0 pa1) (F1 : fd0 Z h0 pa1 (.int 0)) (F2 : fd1 Z h0 pa1 (.ref pa2)) (F3 : av0 Z h0 pa2 pk1 5 ps_pa2) : M6 G 1 0 0 13 #[.ref pa1] h0 n0 [] [] (Q6 Z  h0) := by
  refine mi B6 ef3 (hEW G) fun s X0 hsf0 n0le => ?_
  have := F0.l
  have := F3.l
  refine oA 1 X0 d6_0 rfl rfl <| oF 4 X0 (w19 G) Via.refl F2 d6_1 rfl ?_
  intro _ X2
  refine oL 5 X2 F3 d6_4 rfl <| oA 6 X2 d6_5 rfl rfl <| mV 9 1 X2 F0 (rm_au3 G F1) (u4 G) all0 d6_6 rfl rfl rfl lr (by decide) all0 ?_
  rintro _ _ _ _ X3 rfl _ _ _
  refine o_ishr 10 (v := 5) X3 d6_9 rfl (by decide) ?_
  exact o_iret X3 d6_10 rfl (by decide) (by decide) (fun _ CC => rfl)
theorem rm_ch_g0 (F0 : ex0 Z h0 pa1) (F1 : fd0 Z h0 pa1 (.int 0)) (F2 : fd1 Z h0 pa1 (.ref pa2)) (F3 : av0 Z h0 pa2 pk1 5 [.int 103, .int 114, .int 111, .int 117, .int 112]) (pc_0 : ¬ pi1 < (0 : Int32)) (pc_1 : pi1 < (5 : Int32)) : M5 G 4 0 0 53 #[.ref pa1, .int pi1, .int pi2, .int pi3, .int pi4, .int pi5] h0 n0 [] [] (Q2 Z  h0) := by
  refine mi B5 ef4 (hEW G) fun s X0 hsf0 n0le => ?_
  have := F0.l
  have := F3.l
  refine oi 2 X0 d5_0 rfl rfl ?_
  by_cases hc1 : pi5 = (0 : Int32)
  · refine oy 17 X0 d5_2 (by decide) ((if0 _ _).trans (teq hc1).1) <| oI 18 X0 d5_17 rfl rfl <| oA 19 X0 d5_18 rfl rfl <| mV 22 1 X0 F0 (rm_au7 G F0 F1 F2 F3) (u5 G) all0 d5_19 rfl rfl rfl lr (by decide) all0 ?_
    rintro _ _ _ _ X2 rfl K2 _ _
    refine oN 25 X2 d5_22 rfl (tlt pc_1).2.1 <| oA 26 X2 d5_25 rfl rfl <| oI 27 X2 d5_26 rfl rfl ?_
    have f3 := F0.keep K2
    have f4 := F1.k0 K2
    have f5 := F2.k0 K2
    have f6 := F3.k0 K2
    refine mV 30 0 X2 f3 (rm_chS_g G f3 f4 f5 f6 pc_0 pc_1) (u6 G) all0 d5_27 rfl rfl rfl lr (by decide) all0 ?_
    rintro _ _ _ _ X7 ⟨xi1_8, rfl, q9⟩ _ _ _
    exact o_nret (y := xi1_8) (t := .char) X7 d5_30 rfl (own_narC q9) (by simp) (by decide) (by decide) (fun _ CC => ⟨xi1_8, rfl, q9⟩)
  · refine on 5 X0 d5_2 rfl ((if0 _ _).trans (feq hc1).1) <| oI 6 X0 d5_5 rfl rfl <| oI 7 X0 d5_6 rfl rfl ?_
    by_cases hc10 : pi1 = pi2
    · refine oN 10 X0 d5_7 rfl (teq hc10).2 <| oI 11 X0 d5_10 rfl rfl <| o_sipush 14 (v := 255) X0 d5_11 rfl (by decide) <| o_iand 15 (v := (pi3 &&& (255 : Int32))) X0 d5_14 rfl rfl ?_
      obtain ⟨c11, ce12⟩ : ∃ z : Int32, (pi3 &&& (255 : Int32)).toUInt32.toUInt16.toUInt32.toInt32 = z := ⟨_, rfl⟩
      have cr13 := own_c255 _ _ ce12
      refine o_i2c 16 (v := c11) X0 d5_15 rfl ce12 ?_
      exact o_nret (y := c11) (t := .char) X0 d5_16 rfl (own_narC cr13) (by simp) (by decide) (by decide) (fun _ CC => ⟨c11, rfl, cr13⟩)
    · refine oY 17 X0 d5_7 (by decide) (feq hc10).2 <| oI 18 X0 d5_17 rfl rfl <| oA 19 X0 d5_18 rfl rfl <| mV 22 1 X0 F0 (rm_au7 G F0 F1 F2 F3) (u5 G) all0 d5_19 rfl rfl rfl lr (by decide) all0 ?_
      rintro _ _ _ _ X14 rfl K14 _ _
      refine oN 25 X14 d5_22 rfl (tlt pc_1).2.1 <| oA 26 X14 d5_25 rfl rfl <| oI 27 X14 d5_26 rfl rfl ?_
      have f15 := F0.keep K14
      have f16 := F1.k0 K14
      have f17 := F2.k0 K14
      have f18 := F3.k0 K14
      refine mV 30 0 X14 f15 (rm_chS_g G f15 f16 f17 f18 pc_0 pc_1) (u6 G) all0 d5_27 rfl rfl rfl lr (by decide) all0 ?_
      rintro _ _ _ _ X19 ⟨xi1_20, rfl, q21⟩ _ _ _
      exact o_nret (y := xi1_20) (t := .char) X19 d5_30 rfl (own_narC q21) (by simp) (by decide) (by decide) (fun _ CC => ⟨xi1_20, rfl, q21⟩)
theorem rm_ch_g1 (F0 : ex0 Z h0 pa1) (F1 : fd0 Z h0 pa1 (.int 0)) (F2 : fd1 Z h0 pa1 (.ref pa2)) (F3 : av0 Z h0 pa2 pk1 5 [.int 103, .int 114, .int 111, .int 117, .int 112]) (pc_0 : ¬ pi1 < (5 : Int32)) : M5 G 2 0 0 26 #[.ref pa1, .int pi1, .int pi2, .int pi3, .int pi4, .int pi5] h0 n0 [] [] (Q2 Z  h0) := by
  refine mi B5 ef4 (hEW G) fun s X0 hsf0 n0le => ?_
  have := F0.l
  have := F3.l
  refine oi 2 X0 d5_0 rfl rfl ?_
  by_cases hc1 : pi5 = (0 : Int32)
  · refine oy 17 X0 d5_2 (by decide) ((if0 _ _).trans (teq hc1).1) <| oI 18 X0 d5_17 rfl rfl <| oA 19 X0 d5_18 rfl rfl <| mV 22 1 X0 F0 (rm_au7 G F0 F1 F2 F3) (u5 G) all0 d5_19 rfl rfl rfl lr (by decide) all0 ?_
    rintro _ _ _ _ X2 rfl _ _ _
    refine oY 31 X2 d5_22 (by decide) (flt pc_0).2.1 <| oi 33 X2 d5_31 rfl rfl <| o_sipush 36 (v := 255) X2 d5_33 rfl (by decide) <| o_iand 37 (v := (pi4 &&& (255 : Int32))) X2 d5_36 rfl rfl ?_
    obtain ⟨c3, ce4⟩ : ∃ z : Int32, (pi4 &&& (255 : Int32)).toUInt32.toUInt16.toUInt32.toInt32 = z := ⟨_, rfl⟩
    have cr5 := own_c255 _ _ ce4
    refine o_i2c 38 (v := c3) X2 d5_37 rfl ce4 ?_
    exact o_nret (y := c3) (t := .char) X2 d5_38 rfl (own_narC cr5) (by simp) (by decide) (by decide) (fun _ CC => ⟨c3, rfl, cr5⟩)
  · refine on 5 X0 d5_2 rfl ((if0 _ _).trans (feq hc1).1) <| oI 6 X0 d5_5 rfl rfl <| oI 7 X0 d5_6 rfl rfl ?_
    by_cases hc6 : pi1 = pi2
    · refine oN 10 X0 d5_7 rfl (teq hc6).2 <| oI 11 X0 d5_10 rfl rfl <| o_sipush 14 (v := 255) X0 d5_11 rfl (by decide) <| o_iand 15 (v := (pi3 &&& (255 : Int32))) X0 d5_14 rfl rfl ?_
      obtain ⟨c7, ce8⟩ : ∃ z : Int32, (pi3 &&& (255 : Int32)).toUInt32.toUInt16.toUInt32.toInt32 = z := ⟨_, rfl⟩
      have cr9 := own_c255 _ _ ce8
      refine o_i2c 16 (v := c7) X0 d5_15 rfl ce8 ?_
      exact o_nret (y := c7) (t := .char) X0 d5_16 rfl (own_narC cr9) (by simp) (by decide) (by decide) (fun _ CC => ⟨c7, rfl, cr9⟩)
    · refine oY 17 X0 d5_7 (by decide) (feq hc6).2 <| oI 18 X0 d5_17 rfl rfl <| oA 19 X0 d5_18 rfl rfl <| mV 22 1 X0 F0 (rm_au7 G F0 F1 F2 F3) (u5 G) all0 d5_19 rfl rfl rfl lr (by decide) all0 ?_
      rintro _ _ _ _ X10 rfl _ _ _
      refine oY 31 X10 d5_22 (by decide) (flt pc_0).2.1 <| oi 33 X10 d5_31 rfl rfl <| o_sipush 36 (v := 255) X10 d5_33 rfl (by decide) <| o_iand 37 (v := (pi4 &&& (255 : Int32))) X10 d5_36 rfl rfl ?_
      obtain ⟨c11, ce12⟩ : ∃ z : Int32, (pi4 &&& (255 : Int32)).toUInt32.toUInt16.toUInt32.toInt32 = z := ⟨_, rfl⟩
      have cr13 := own_c255 _ _ ce12
      refine o_i2c 38 (v := c11) X10 d5_37 rfl ce12 ?_
      exact o_nret (y := c11) (t := .char) X10 d5_38 rfl (own_narC cr13) (by simp) (by decide) (by decide) (fun _ CC => ⟨c11, rfl, cr13⟩)
theorem rm_au8 (pc_k0 : ¬ pi1 < (0 : Int32)) (pc_k1 : pi1 < (21 : Int32)) (r_fmt : fmt.isRef = true) : M2 G 0 0 0 0 #[.int pi1, .int 21, fmt] h0 n0 [] [] (Q0 Z pi1 h0) := by
  refine mi B2 (ef2 r_fmt) (hEW G) fun s X0 hsf0 n0le => ?_
  refine oI 1 X0 d2_0 rfl rfl <| on 4 X0 d2_1 rfl ((if0 _ _).trans (flt pc_k0).1) <| oI 5 X0 d2_4 rfl rfl <| oI 6 X0 d2_5 rfl rfl <| oY 16 X0 d2_6 (by decide) (tlt pc_k1).1 <| oI 17 X0 d2_16 rfl rfl ?_
  exact o_iret X0 d2_17 rfl (by decide) (by decide) (fun _ CC => rfl)
theorem rm_au9 (pc_k0 : ¬ pi1 < (0 : Int32)) (pc_k1 : pi1 < (21 : Int32)) : M1 G 1 0 0 14 #[.int pi1, .int 21] h0 n0 [] [] (Q1 Z  h0) := by
  refine mi B1 ef1 (hEW G) fun s X0 hsf0 n0le => ?_
  refine oI 1 X0 d1_0 rfl rfl <| oI 2 X0 d1_1 rfl rfl <| oG 5 X0 (w44 G) Via.refl ((sg16 G).ext X0.old.2) d1_2 rfl ?_
  intro _ X2
  refine mS 8 0 X2 (rm_au8 G pc_k0 pc_k1 (hfmt G)) (u0 G) all0 d1_5 rfl rfl rfl lr (by decide) all0 ?_
  rintro _ _ _ _ X3 rfl _ _ _
  refine o_pop 9 X3 d1_8 rfl rfl ?_
  exact oz X3 d1_9 rfl (by decide) (by decide) (fun _ CC => rfl)
theorem rm_chL_a (F0 : av0 Z h0 pa1 pk1 21 [.int 114, .int 111, .int 108, .int 101, .int 45, .int 97, .int 110, .int 100, .int 45, .int 115, .int 117, .int 98, .int 111, .int 114, .int 100, .int 105, .int 110, .int 97, .int 116, .int 101, .int 115]) (pc_0 : ¬ pi1 < (0 : Int32)) (pc_1 : pi1 < (21 : Int32)) : M0 G 2 0 0 27 #[.ref pa1, .int pi1] h0 n0 [] [] (Q2 Z  h0) := by
  refine mi B0 ef0 (hEW G) fun s X0 hsf0 n0le => ?_
  have := F0.l
  refine oI 1 X0 d0_0 rfl rfl <| oA 2 X0 d0_1 rfl rfl <| oL 3 X0 F0 d0_2 rfl <| mS 6 0 X0 (rm_au9 G pc_0 pc_1) (u1 G) all0 d0_3 rfl rfl rfl lr (by decide) all0 ?_
  rintro _ _ _ _ X1 rfl K1 _ _
  refine oA 7 X1 d0_6 rfl rfl <| oI 8 X1 d0_7 rfl rfl ?_
  have f2 := F0.k0 K1
  refine oB 9 (v := (.int (([114, 111, 108, 101, 45, 97, 110, 100, 45, 115, 117, 98, 111, 114, 100, 105, 110, 97, 116, 101, 115] : List Int32).getD pi1.toNatClampNeg 0))) X1 f2 ⟨pc_0, pc_1⟩ (own_getI ([114, 111, 108, 101, 45, 97, 110, 100, 45, 115, 117, 98, 111, 114, 100, 105, 110, 97, 116, 101, 115] : List Int32) _) d0_8 rfl <| o_sipush 12 (v := 255) X1 d0_9 rfl (by decide) <| o_iand 13 (v := ((([114, 111, 108, 101, 45, 97, 110, 100, 45, 115, 117, 98, 111, 114, 100, 105, 110, 97, 116, 101, 115] : List Int32).getD pi1.toNatClampNeg 0) &&& (255 : Int32))) X1 d0_12 rfl rfl ?_
  obtain ⟨c3, ce4⟩ : ∃ z : Int32, ((([114, 111, 108, 101, 45, 97, 110, 100, 45, 115, 117, 98, 111, 114, 100, 105, 110, 97, 116, 101, 115] : List Int32).getD pi1.toNatClampNeg 0) &&& (255 : Int32)).toUInt32.toUInt16.toUInt32.toInt32 = z := ⟨_, rfl⟩
  have cr5 := own_c255 _ _ ce4
  refine o_i2c 14 (v := c3) X1 d0_13 rfl ce4 ?_
  exact o_nret (y := c3) (t := .char) X1 d0_14 rfl (own_narC cr5) (by simp) (by decide) (by decide) (fun _ CC => ⟨c3, rfl, cr5⟩)
theorem rm_chS_a (F0 : ex0 Z h0 pa1) (F1 : fd0 Z h0 pa1 (.int 0)) (F2 : fd1 Z h0 pa1 (.ref pa2)) (F3 : av0 Z h0 pa2 pk1 21 [.int 114, .int 111, .int 108, .int 101, .int 45, .int 97, .int 110, .int 100, .int 45, .int 115, .int 117, .int 98, .int 111, .int 114, .int 100, .int 105, .int 110, .int 97, .int 116, .int 101, .int 115]) (pc_0 : ¬ pi1 < (0 : Int32)) (pc_1 : pi1 < (21 : Int32)) : M3 G 3 0 0 40 #[.ref pa1, .int pi1] h0 n0 [] [] (Q2 Z  h0) := by
  refine mi B3 ef0 (hEW G) fun s X0 hsf0 n0le => ?_
  have := F0.l
  have := F3.l
  refine oA 1 X0 d3_0 rfl rfl <| mV 4 0 X0 F0 (rm_au2 G F1 (by decide)) (u2 G) all0 d3_1 rfl rfl rfl lr (by decide) all0 ?_
  rintro _ _ _ _ X1 rfl K1 _ _
  refine on 7 X1 d3_4 rfl ((if0 _ _).trans (feq (by decide)).1) <| oA 8 X1 d3_7 rfl rfl ?_
  have f2 := F2.k0 K1
  refine oF 11 X1 (w19 G) Via.refl f2 d3_8 rfl ?_
  intro _ X4
  refine oI 12 X4 d3_11 rfl rfl ?_
  have f5 := F3.k0 K1
  refine mS 15 0 X4 (rm_chL_a G f5 pc_0 pc_1) (u3 G) all0 d3_12 rfl rfl rfl lr (by decide) all0 ?_
  rintro _ _ _ _ X6 ⟨xi1_7, rfl, q8⟩ _ _ _
  exact o_nret (y := xi1_7) (t := .char) X6 d3_15 rfl (own_narC q8) (by simp) (by decide) (by decide) (fun _ CC => ⟨xi1_7, rfl, q8⟩)
def Q7 (Z : State) (h0 : Heap) (v : Option Value) (h : Heap) (vm : Vm) : Prop := v = some (.int 21)
theorem rm_au10 (F0 : ex0 Z h0 pa1) (F1 : fd0 Z h0 pa1 (.int 0)) (F2 : fd1 Z h0 pa1 (.ref pa2)) (F3 : av0 Z h0 pa2 pk1 21 ps_pa2) : M6 G 1 0 0 13 #[.ref pa1] h0 n0 [] [] (Q7 Z  h0) := by
  refine mi B6 ef3 (hEW G) fun s X0 hsf0 n0le => ?_
  have := F0.l
  have := F3.l
  refine oA 1 X0 d6_0 rfl rfl <| oF 4 X0 (w19 G) Via.refl F2 d6_1 rfl ?_
  intro _ X2
  refine oL 5 X2 F3 d6_4 rfl <| oA 6 X2 d6_5 rfl rfl <| mV 9 1 X2 F0 (rm_au3 G F1) (u4 G) all0 d6_6 rfl rfl rfl lr (by decide) all0 ?_
  rintro _ _ _ _ X3 rfl _ _ _
  refine o_ishr 10 (v := 21) X3 d6_9 rfl (by decide) ?_
  exact o_iret X3 d6_10 rfl (by decide) (by decide) (fun _ CC => rfl)
theorem rm_ch_a0 (F0 : ex0 Z h0 pa1) (F1 : fd0 Z h0 pa1 (.int 0)) (F2 : fd1 Z h0 pa1 (.ref pa2)) (F3 : av0 Z h0 pa2 pk1 21 [.int 114, .int 111, .int 108, .int 101, .int 45, .int 97, .int 110, .int 100, .int 45, .int 115, .int 117, .int 98, .int 111, .int 114, .int 100, .int 105, .int 110, .int 97, .int 116, .int 101, .int 115]) (pc_0 : ¬ pi1 < (0 : Int32)) (pc_1 : pi1 < (21 : Int32)) : M5 G 4 0 0 53 #[.ref pa1, .int pi1, .int pi2, .int pi3, .int pi4, .int pi5] h0 n0 [] [] (Q2 Z  h0) := by
  refine mi B5 ef4 (hEW G) fun s X0 hsf0 n0le => ?_
  have := F0.l
  have := F3.l
  refine oi 2 X0 d5_0 rfl rfl ?_
  by_cases hc1 : pi5 = (0 : Int32)
  · refine oy 17 X0 d5_2 (by decide) ((if0 _ _).trans (teq hc1).1) <| oI 18 X0 d5_17 rfl rfl <| oA 19 X0 d5_18 rfl rfl <| mV 22 1 X0 F0 (rm_au10 G F0 F1 F2 F3) (u5 G) all0 d5_19 rfl rfl rfl lr (by decide) all0 ?_
    rintro _ _ _ _ X2 rfl K2 _ _
    refine oN 25 X2 d5_22 rfl (tlt pc_1).2.1 <| oA 26 X2 d5_25 rfl rfl <| oI 27 X2 d5_26 rfl rfl ?_
    have f3 := F0.keep K2
    have f4 := F1.k0 K2
    have f5 := F2.k0 K2
    have f6 := F3.k0 K2
    refine mV 30 0 X2 f3 (rm_chS_a G f3 f4 f5 f6 pc_0 pc_1) (u6 G) all0 d5_27 rfl rfl rfl lr (by decide) all0 ?_
    rintro _ _ _ _ X7 ⟨xi1_8, rfl, q9⟩ _ _ _
    exact o_nret (y := xi1_8) (t := .char) X7 d5_30 rfl (own_narC q9) (by simp) (by decide) (by decide) (fun _ CC => ⟨xi1_8, rfl, q9⟩)
  · refine on 5 X0 d5_2 rfl ((if0 _ _).trans (feq hc1).1) <| oI 6 X0 d5_5 rfl rfl <| oI 7 X0 d5_6 rfl rfl ?_
    by_cases hc10 : pi1 = pi2
    · refine oN 10 X0 d5_7 rfl (teq hc10).2 <| oI 11 X0 d5_10 rfl rfl <| o_sipush 14 (v := 255) X0 d5_11 rfl (by decide) <| o_iand 15 (v := (pi3 &&& (255 : Int32))) X0 d5_14 rfl rfl ?_
      obtain ⟨c11, ce12⟩ : ∃ z : Int32, (pi3 &&& (255 : Int32)).toUInt32.toUInt16.toUInt32.toInt32 = z := ⟨_, rfl⟩
      have cr13 := own_c255 _ _ ce12
      refine o_i2c 16 (v := c11) X0 d5_15 rfl ce12 ?_
      exact o_nret (y := c11) (t := .char) X0 d5_16 rfl (own_narC cr13) (by simp) (by decide) (by decide) (fun _ CC => ⟨c11, rfl, cr13⟩)
    · refine oY 17 X0 d5_7 (by decide) (feq hc10).2 <| oI 18 X0 d5_17 rfl rfl <| oA 19 X0 d5_18 rfl rfl <| mV 22 1 X0 F0 (rm_au10 G F0 F1 F2 F3) (u5 G) all0 d5_19 rfl rfl rfl lr (by decide) all0 ?_
      rintro _ _ _ _ X14 rfl K14 _ _
      refine oN 25 X14 d5_22 rfl (tlt pc_1).2.1 <| oA 26 X14 d5_25 rfl rfl <| oI 27 X14 d5_26 rfl rfl ?_
      have f15 := F0.keep K14
      have f16 := F1.k0 K14
      have f17 := F2.k0 K14
      have f18 := F3.k0 K14
      refine mV 30 0 X14 f15 (rm_chS_a G f15 f16 f17 f18 pc_0 pc_1) (u6 G) all0 d5_27 rfl rfl rfl lr (by decide) all0 ?_
      rintro _ _ _ _ X19 ⟨xi1_20, rfl, q21⟩ _ _ _
      exact o_nret (y := xi1_20) (t := .char) X19 d5_30 rfl (own_narC q21) (by simp) (by decide) (by decide) (fun _ CC => ⟨xi1_20, rfl, q21⟩)
theorem rm_ch_a1 (F0 : ex0 Z h0 pa1) (F1 : fd0 Z h0 pa1 (.int 0)) (F2 : fd1 Z h0 pa1 (.ref pa2)) (F3 : av0 Z h0 pa2 pk1 21 [.int 114, .int 111, .int 108, .int 101, .int 45, .int 97, .int 110, .int 100, .int 45, .int 115, .int 117, .int 98, .int 111, .int 114, .int 100, .int 105, .int 110, .int 97, .int 116, .int 101, .int 115]) (pc_0 : ¬ pi1 < (21 : Int32)) : M5 G 2 0 0 26 #[.ref pa1, .int pi1, .int pi2, .int pi3, .int pi4, .int pi5] h0 n0 [] [] (Q2 Z  h0) := by
  refine mi B5 ef4 (hEW G) fun s X0 hsf0 n0le => ?_
  have := F0.l
  have := F3.l
  refine oi 2 X0 d5_0 rfl rfl ?_
  by_cases hc1 : pi5 = (0 : Int32)
  · refine oy 17 X0 d5_2 (by decide) ((if0 _ _).trans (teq hc1).1) <| oI 18 X0 d5_17 rfl rfl <| oA 19 X0 d5_18 rfl rfl <| mV 22 1 X0 F0 (rm_au10 G F0 F1 F2 F3) (u5 G) all0 d5_19 rfl rfl rfl lr (by decide) all0 ?_
    rintro _ _ _ _ X2 rfl _ _ _
    refine oY 31 X2 d5_22 (by decide) (flt pc_0).2.1 <| oi 33 X2 d5_31 rfl rfl <| o_sipush 36 (v := 255) X2 d5_33 rfl (by decide) <| o_iand 37 (v := (pi4 &&& (255 : Int32))) X2 d5_36 rfl rfl ?_
    obtain ⟨c3, ce4⟩ : ∃ z : Int32, (pi4 &&& (255 : Int32)).toUInt32.toUInt16.toUInt32.toInt32 = z := ⟨_, rfl⟩
    have cr5 := own_c255 _ _ ce4
    refine o_i2c 38 (v := c3) X2 d5_37 rfl ce4 ?_
    exact o_nret (y := c3) (t := .char) X2 d5_38 rfl (own_narC cr5) (by simp) (by decide) (by decide) (fun _ CC => ⟨c3, rfl, cr5⟩)
  · refine on 5 X0 d5_2 rfl ((if0 _ _).trans (feq hc1).1) <| oI 6 X0 d5_5 rfl rfl <| oI 7 X0 d5_6 rfl rfl ?_
    by_cases hc6 : pi1 = pi2
    · refine oN 10 X0 d5_7 rfl (teq hc6).2 <| oI 11 X0 d5_10 rfl rfl <| o_sipush 14 (v := 255) X0 d5_11 rfl (by decide) <| o_iand 15 (v := (pi3 &&& (255 : Int32))) X0 d5_14 rfl rfl ?_
      obtain ⟨c7, ce8⟩ : ∃ z : Int32, (pi3 &&& (255 : Int32)).toUInt32.toUInt16.toUInt32.toInt32 = z := ⟨_, rfl⟩
      have cr9 := own_c255 _ _ ce8
      refine o_i2c 16 (v := c7) X0 d5_15 rfl ce8 ?_
      exact o_nret (y := c7) (t := .char) X0 d5_16 rfl (own_narC cr9) (by simp) (by decide) (by decide) (fun _ CC => ⟨c7, rfl, cr9⟩)
    · refine oY 17 X0 d5_7 (by decide) (feq hc6).2 <| oI 18 X0 d5_17 rfl rfl <| oA 19 X0 d5_18 rfl rfl <| mV 22 1 X0 F0 (rm_au10 G F0 F1 F2 F3) (u5 G) all0 d5_19 rfl rfl rfl lr (by decide) all0 ?_
      rintro _ _ _ _ X10 rfl _ _ _
      refine oY 31 X10 d5_22 (by decide) (flt pc_0).2.1 <| oi 33 X10 d5_31 rfl rfl <| o_sipush 36 (v := 255) X10 d5_33 rfl (by decide) <| o_iand 37 (v := (pi4 &&& (255 : Int32))) X10 d5_36 rfl rfl ?_
      obtain ⟨c11, ce12⟩ : ∃ z : Int32, (pi4 &&& (255 : Int32)).toUInt32.toUInt16.toUInt32.toInt32 = z := ⟨_, rfl⟩
      have cr13 := own_c255 _ _ ce12
      refine o_i2c 38 (v := c11) X10 d5_37 rfl ce12 ?_
      exact o_nret (y := c11) (t := .char) X10 d5_38 rfl (own_narC cr13) (by simp) (by decide) (by decide) (fun _ CC => ⟨c11, rfl, cr13⟩)
def Q8 (Z : State) (b1 b2 b3 b4 : Int32) (h0 : Heap) (v : Option Value) (h : Heap) (vm : Vm) : Prop := v = some (.int (oEq [b1, b2, b3, b4] [117, 115, 101, 114]))
theorem rm_eqA_u (F0 : av0 Z h0 pa1 pk1 4 [.int pi1, .int pi2, .int pi3, .int pi4]) (F1 : av0 Z h0 pa2 pk2 4 [.int 117, .int 115, .int 101, .int 114]) : M8 G 0 0 0 0 #[.ref pa1, .ref pa2] h0 n0 [] [] (Q8 Z pi1 pi2 pi3 pi4 h0) := by
  refine mi B8 ef5 (hEW G) fun s X0 hsf0 n0le => ?_
  have := F0.l
  have := F1.l
  refine oA 1 X0 d8_0 rfl rfl <| oL 2 X0 F0 d8_1 rfl <| oA 3 X0 d8_2 rfl rfl <| oL 4 X0 F1 d8_3 rfl <| oN 7 X0 d8_4 rfl (teq (by decide)).2 <| oc 8 (v := 0) X0 d8_7 rfl (by decide) <| oT 9 (l' := #[rr pa1, rr pa2, ii 0]) X0 d8_8 rfl rfl <| oI 10 X0 d8_9 rfl rfl <| oA 11 X0 d8_10 rfl rfl <| oL 12 X0 F0 d8_11 rfl <| oN 15 X0 d8_12 rfl (tlt (by decide)).2.1 <| oA 16 X0 d8_15 rfl rfl ?_
  refine oI 17 X0 d8_16 rfl rfl <| oB 18 (v := (.int pi1)) X0 F0 ⟨by decide, by decide⟩ rfl d8_17 rfl <| oA 19 X0 d8_18 rfl rfl <| oI 20 X0 d8_19 rfl rfl <| oB 21 (v := (.int 117)) X0 F1 ⟨by decide, by decide⟩ rfl d8_20 rfl ?_
  by_cases hc1 : pi1 = (117 : Int32)
  · refine oY 26 X0 d8_21 (by decide) (teq hc1).1 <| oJ 29 1 #[rr pa1, rr pa2, ii 1] X0 d8_26 rfl rfl (by decide) rfl <| og 9 X0 d8_29 (by decide) <| oI 10 X0 d8_9 rfl rfl <| oA 11 X0 d8_10 rfl rfl <| oL 12 X0 F0 d8_11 rfl <| oN 15 X0 d8_12 rfl (tlt (by decide)).2.1 <| oA 16 X0 d8_15 rfl rfl <| oI 17 X0 d8_16 rfl rfl <| oB 18 (v := (.int pi2)) X0 F0 ⟨by decide, by decide⟩ rfl d8_17 rfl <| oA 19 X0 d8_18 rfl rfl <| oI 20 X0 d8_19 rfl rfl ?_
    refine oB 21 (v := (.int 115)) X0 F1 ⟨by decide, by decide⟩ rfl d8_20 rfl ?_
    by_cases hc2 : pi2 = (115 : Int32)
    · refine oY 26 X0 d8_21 (by decide) (teq hc2).1 <| oJ 29 2 #[rr pa1, rr pa2, ii 2] X0 d8_26 rfl rfl (by decide) rfl <| og 9 X0 d8_29 (by decide) <| oI 10 X0 d8_9 rfl rfl <| oA 11 X0 d8_10 rfl rfl <| oL 12 X0 F0 d8_11 rfl <| oN 15 X0 d8_12 rfl (tlt (by decide)).2.1 <| oA 16 X0 d8_15 rfl rfl <| oI 17 X0 d8_16 rfl rfl <| oB 18 (v := (.int pi3)) X0 F0 ⟨by decide, by decide⟩ rfl d8_17 rfl <| oA 19 X0 d8_18 rfl rfl <| oI 20 X0 d8_19 rfl rfl ?_
      refine oB 21 (v := (.int 101)) X0 F1 ⟨by decide, by decide⟩ rfl d8_20 rfl ?_
      by_cases hc3 : pi3 = (101 : Int32)
      · refine oY 26 X0 d8_21 (by decide) (teq hc3).1 <| oJ 29 3 #[rr pa1, rr pa2, ii 3] X0 d8_26 rfl rfl (by decide) rfl <| og 9 X0 d8_29 (by decide) <| oI 10 X0 d8_9 rfl rfl <| oA 11 X0 d8_10 rfl rfl <| oL 12 X0 F0 d8_11 rfl <| oN 15 X0 d8_12 rfl (tlt (by decide)).2.1 <| oA 16 X0 d8_15 rfl rfl <| oI 17 X0 d8_16 rfl rfl <| oB 18 (v := (.int pi4)) X0 F0 ⟨by decide, by decide⟩ rfl d8_17 rfl <| oA 19 X0 d8_18 rfl rfl <| oI 20 X0 d8_19 rfl rfl ?_
        refine oB 21 (v := (.int 114)) X0 F1 ⟨by decide, by decide⟩ rfl d8_20 rfl ?_
        by_cases hc4 : pi4 = (114 : Int32)
        · refine oY 26 X0 d8_21 (by decide) (teq hc4).1 <| oJ 29 4 #[rr pa1, rr pa2, ii 4] X0 d8_26 rfl rfl (by decide) rfl <| og 9 X0 d8_29 (by decide) <| oI 10 X0 d8_9 rfl rfl <| oA 11 X0 d8_10 rfl rfl <| oL 12 X0 F0 d8_11 rfl <| oY 32 X0 d8_12 (by decide) (flt (by decide)).2.1 <| oc 33 (v := 1) X0 d8_32 rfl (by decide) ?_
          exact o_nret (y := (1 : Int32)) (t := .boolean) X0 d8_33 rfl (by decide) (by simp) (by decide) (by decide) (fun _ CC => (own_eqP (by rw [hc1, hc2, hc3, hc4])))
        · refine oN 24 X0 d8_21 rfl (feq hc4).1 <| oc 25 (v := 0) X0 d8_24 rfl (by decide) ?_
          exact o_nret (y := (0 : Int32)) (t := .boolean) X0 d8_25 rfl (by decide) (by simp) (by decide) (by decide) (fun _ CC => (own_eqN (fun q => hc4 (List.cons.inj (List.cons.inj (List.cons.inj (List.cons.inj q).2).2).2).1)))
      · refine oN 24 X0 d8_21 rfl (feq hc3).1 <| oc 25 (v := 0) X0 d8_24 rfl (by decide) ?_
        exact o_nret (y := (0 : Int32)) (t := .boolean) X0 d8_25 rfl (by decide) (by simp) (by decide) (by decide) (fun _ CC => (own_eqN (fun q => hc3 (List.cons.inj (List.cons.inj (List.cons.inj q).2).2).1)))
    · refine oN 24 X0 d8_21 rfl (feq hc2).1 <| oc 25 (v := 0) X0 d8_24 rfl (by decide) ?_
      exact o_nret (y := (0 : Int32)) (t := .boolean) X0 d8_25 rfl (by decide) (by simp) (by decide) (by decide) (fun _ CC => (own_eqN (fun q => hc2 (List.cons.inj (List.cons.inj q).2).1)))
  · refine oN 24 X0 d8_21 rfl (feq hc1).1 <| oc 25 (v := 0) X0 d8_24 rfl (by decide) ?_
    exact o_nret (y := (0 : Int32)) (t := .boolean) X0 d8_25 rfl (by decide) (by simp) (by decide) (by decide) (fun _ CC => (own_eqN (fun q => hc1 (List.cons.inj q).1)))
theorem rm_eqB_u (F0 : av0 Z h0 pa1 pk1 4 [.int pi1, .int pi2, .int pi3, .int pi4]) : M8 G 0 0 0 0 #[.ref tu1, .ref pa1] h0 n0 [] [] (Q8 Z pi1 pi2 pi3 pi4 h0) := by
  refine mi B8 ef5 (hEW G) fun s X0 hsf0 n0le => ?_
  have := F0.l
  refine oA 1 X0 d8_0 rfl rfl ?_
  have f1 := (sg0 G).ext X0.old.2
  refine oL 2 X0 f1 d8_1 rfl <| oA 3 X0 d8_2 rfl rfl <| oL 4 X0 F0 d8_3 rfl <| oN 7 X0 d8_4 rfl (teq (by decide)).2 <| oc 8 (v := 0) X0 d8_7 rfl (by decide) <| oT 9 (l' := #[rr tu1, rr pa1, ii 0]) X0 d8_8 rfl rfl <| oI 10 X0 d8_9 rfl rfl <| oA 11 X0 d8_10 rfl rfl <| oL 12 X0 f1 d8_11 rfl <| oN 15 X0 d8_12 rfl (tlt (by decide)).2.1 <| oA 16 X0 d8_15 rfl rfl <| oI 17 X0 d8_16 rfl rfl ?_
  refine oB 18 (v := (.int 117)) X0 f1 ⟨by decide, by decide⟩ rfl d8_17 rfl <| oA 19 X0 d8_18 rfl rfl <| oI 20 X0 d8_19 rfl rfl <| oB 21 (v := (.int pi1)) X0 F0 ⟨by decide, by decide⟩ rfl d8_20 rfl ?_
  by_cases hc2 : (117 : Int32) = pi1
  · refine oY 26 X0 d8_21 (by decide) (teq hc2).1 <| oJ 29 1 #[rr tu1, rr pa1, ii 1] X0 d8_26 rfl rfl (by decide) rfl <| og 9 X0 d8_29 (by decide) <| oI 10 X0 d8_9 rfl rfl <| oA 11 X0 d8_10 rfl rfl <| oL 12 X0 f1 d8_11 rfl <| oN 15 X0 d8_12 rfl (tlt (by decide)).2.1 <| oA 16 X0 d8_15 rfl rfl <| oI 17 X0 d8_16 rfl rfl <| oB 18 (v := (.int 115)) X0 f1 ⟨by decide, by decide⟩ rfl d8_17 rfl <| oA 19 X0 d8_18 rfl rfl <| oI 20 X0 d8_19 rfl rfl ?_
    refine oB 21 (v := (.int pi2)) X0 F0 ⟨by decide, by decide⟩ rfl d8_20 rfl ?_
    by_cases hc3 : (115 : Int32) = pi2
    · refine oY 26 X0 d8_21 (by decide) (teq hc3).1 <| oJ 29 2 #[rr tu1, rr pa1, ii 2] X0 d8_26 rfl rfl (by decide) rfl <| og 9 X0 d8_29 (by decide) <| oI 10 X0 d8_9 rfl rfl <| oA 11 X0 d8_10 rfl rfl <| oL 12 X0 f1 d8_11 rfl <| oN 15 X0 d8_12 rfl (tlt (by decide)).2.1 <| oA 16 X0 d8_15 rfl rfl <| oI 17 X0 d8_16 rfl rfl <| oB 18 (v := (.int 101)) X0 f1 ⟨by decide, by decide⟩ rfl d8_17 rfl <| oA 19 X0 d8_18 rfl rfl <| oI 20 X0 d8_19 rfl rfl ?_
      refine oB 21 (v := (.int pi3)) X0 F0 ⟨by decide, by decide⟩ rfl d8_20 rfl ?_
      by_cases hc4 : (101 : Int32) = pi3
      · refine oY 26 X0 d8_21 (by decide) (teq hc4).1 <| oJ 29 3 #[rr tu1, rr pa1, ii 3] X0 d8_26 rfl rfl (by decide) rfl <| og 9 X0 d8_29 (by decide) <| oI 10 X0 d8_9 rfl rfl <| oA 11 X0 d8_10 rfl rfl <| oL 12 X0 f1 d8_11 rfl <| oN 15 X0 d8_12 rfl (tlt (by decide)).2.1 <| oA 16 X0 d8_15 rfl rfl <| oI 17 X0 d8_16 rfl rfl <| oB 18 (v := (.int 114)) X0 f1 ⟨by decide, by decide⟩ rfl d8_17 rfl <| oA 19 X0 d8_18 rfl rfl <| oI 20 X0 d8_19 rfl rfl ?_
        refine oB 21 (v := (.int pi4)) X0 F0 ⟨by decide, by decide⟩ rfl d8_20 rfl ?_
        by_cases hc5 : (114 : Int32) = pi4
        · refine oY 26 X0 d8_21 (by decide) (teq hc5).1 <| oJ 29 4 #[rr tu1, rr pa1, ii 4] X0 d8_26 rfl rfl (by decide) rfl <| og 9 X0 d8_29 (by decide) <| oI 10 X0 d8_9 rfl rfl <| oA 11 X0 d8_10 rfl rfl <| oL 12 X0 f1 d8_11 rfl <| oY 32 X0 d8_12 (by decide) (flt (by decide)).2.1 <| oc 33 (v := 1) X0 d8_32 rfl (by decide) ?_
          exact o_nret (y := (1 : Int32)) (t := .boolean) X0 d8_33 rfl (by decide) (by simp) (by decide) (by decide) (fun _ CC => (own_eqP (by rw [← hc2, ← hc3, ← hc4, ← hc5])))
        · refine oN 24 X0 d8_21 rfl (feq hc5).1 <| oc 25 (v := 0) X0 d8_24 rfl (by decide) ?_
          exact o_nret (y := (0 : Int32)) (t := .boolean) X0 d8_25 rfl (by decide) (by simp) (by decide) (by decide) (fun _ CC => (own_eqN (fun q => hc5 (List.cons.inj (List.cons.inj (List.cons.inj (List.cons.inj q).2).2).2).1.symm)))
      · refine oN 24 X0 d8_21 rfl (feq hc4).1 <| oc 25 (v := 0) X0 d8_24 rfl (by decide) ?_
        exact o_nret (y := (0 : Int32)) (t := .boolean) X0 d8_25 rfl (by decide) (by simp) (by decide) (by decide) (fun _ CC => (own_eqN (fun q => hc4 (List.cons.inj (List.cons.inj (List.cons.inj q).2).2).1.symm)))
    · refine oN 24 X0 d8_21 rfl (feq hc3).1 <| oc 25 (v := 0) X0 d8_24 rfl (by decide) ?_
      exact o_nret (y := (0 : Int32)) (t := .boolean) X0 d8_25 rfl (by decide) (by simp) (by decide) (by decide) (fun _ CC => (own_eqN (fun q => hc3 (List.cons.inj (List.cons.inj q).2).1.symm)))
  · refine oN 24 X0 d8_21 rfl (feq hc2).1 <| oc 25 (v := 0) X0 d8_24 rfl (by decide) ?_
    exact o_nret (y := (0 : Int32)) (t := .boolean) X0 d8_25 rfl (by decide) (by simp) (by decide) (by decide) (fun _ CC => (own_eqN (fun q => hc2 (List.cons.inj q).1.symm)))
def Q9 (Z : State) (b1 b2 b3 b4 : Int32) (h0 : Heap) (v : Option Value) (h : Heap) (vm : Vm) : Prop := v = some (.int (oEq [b1, b2, b3, b4] [114, 111, 108, 101]))
theorem rm_eqA_r (F0 : av0 Z h0 pa1 pk1 4 [.int pi1, .int pi2, .int pi3, .int pi4]) (F1 : av0 Z h0 pa2 pk2 4 [.int 114, .int 111, .int 108, .int 101]) : M8 G 0 0 0 0 #[.ref pa1, .ref pa2] h0 n0 [] [] (Q9 Z pi1 pi2 pi3 pi4 h0) := by
  refine mi B8 ef5 (hEW G) fun s X0 hsf0 n0le => ?_
  have := F0.l
  have := F1.l
  refine oA 1 X0 d8_0 rfl rfl <| oL 2 X0 F0 d8_1 rfl <| oA 3 X0 d8_2 rfl rfl <| oL 4 X0 F1 d8_3 rfl <| oN 7 X0 d8_4 rfl (teq (by decide)).2 <| oc 8 (v := 0) X0 d8_7 rfl (by decide) <| oT 9 (l' := #[rr pa1, rr pa2, ii 0]) X0 d8_8 rfl rfl <| oI 10 X0 d8_9 rfl rfl <| oA 11 X0 d8_10 rfl rfl <| oL 12 X0 F0 d8_11 rfl <| oN 15 X0 d8_12 rfl (tlt (by decide)).2.1 <| oA 16 X0 d8_15 rfl rfl ?_
  refine oI 17 X0 d8_16 rfl rfl <| oB 18 (v := (.int pi1)) X0 F0 ⟨by decide, by decide⟩ rfl d8_17 rfl <| oA 19 X0 d8_18 rfl rfl <| oI 20 X0 d8_19 rfl rfl <| oB 21 (v := (.int 114)) X0 F1 ⟨by decide, by decide⟩ rfl d8_20 rfl ?_
  by_cases hc1 : pi1 = (114 : Int32)
  · refine oY 26 X0 d8_21 (by decide) (teq hc1).1 <| oJ 29 1 #[rr pa1, rr pa2, ii 1] X0 d8_26 rfl rfl (by decide) rfl <| og 9 X0 d8_29 (by decide) <| oI 10 X0 d8_9 rfl rfl <| oA 11 X0 d8_10 rfl rfl <| oL 12 X0 F0 d8_11 rfl <| oN 15 X0 d8_12 rfl (tlt (by decide)).2.1 <| oA 16 X0 d8_15 rfl rfl <| oI 17 X0 d8_16 rfl rfl <| oB 18 (v := (.int pi2)) X0 F0 ⟨by decide, by decide⟩ rfl d8_17 rfl <| oA 19 X0 d8_18 rfl rfl <| oI 20 X0 d8_19 rfl rfl ?_
    refine oB 21 (v := (.int 111)) X0 F1 ⟨by decide, by decide⟩ rfl d8_20 rfl ?_
    by_cases hc2 : pi2 = (111 : Int32)
    · refine oY 26 X0 d8_21 (by decide) (teq hc2).1 <| oJ 29 2 #[rr pa1, rr pa2, ii 2] X0 d8_26 rfl rfl (by decide) rfl <| og 9 X0 d8_29 (by decide) <| oI 10 X0 d8_9 rfl rfl <| oA 11 X0 d8_10 rfl rfl <| oL 12 X0 F0 d8_11 rfl <| oN 15 X0 d8_12 rfl (tlt (by decide)).2.1 <| oA 16 X0 d8_15 rfl rfl <| oI 17 X0 d8_16 rfl rfl <| oB 18 (v := (.int pi3)) X0 F0 ⟨by decide, by decide⟩ rfl d8_17 rfl <| oA 19 X0 d8_18 rfl rfl <| oI 20 X0 d8_19 rfl rfl ?_
      refine oB 21 (v := (.int 108)) X0 F1 ⟨by decide, by decide⟩ rfl d8_20 rfl ?_
      by_cases hc3 : pi3 = (108 : Int32)
      · refine oY 26 X0 d8_21 (by decide) (teq hc3).1 <| oJ 29 3 #[rr pa1, rr pa2, ii 3] X0 d8_26 rfl rfl (by decide) rfl <| og 9 X0 d8_29 (by decide) <| oI 10 X0 d8_9 rfl rfl <| oA 11 X0 d8_10 rfl rfl <| oL 12 X0 F0 d8_11 rfl <| oN 15 X0 d8_12 rfl (tlt (by decide)).2.1 <| oA 16 X0 d8_15 rfl rfl <| oI 17 X0 d8_16 rfl rfl <| oB 18 (v := (.int pi4)) X0 F0 ⟨by decide, by decide⟩ rfl d8_17 rfl <| oA 19 X0 d8_18 rfl rfl <| oI 20 X0 d8_19 rfl rfl ?_
        refine oB 21 (v := (.int 101)) X0 F1 ⟨by decide, by decide⟩ rfl d8_20 rfl ?_
        by_cases hc4 : pi4 = (101 : Int32)
        · refine oY 26 X0 d8_21 (by decide) (teq hc4).1 <| oJ 29 4 #[rr pa1, rr pa2, ii 4] X0 d8_26 rfl rfl (by decide) rfl <| og 9 X0 d8_29 (by decide) <| oI 10 X0 d8_9 rfl rfl <| oA 11 X0 d8_10 rfl rfl <| oL 12 X0 F0 d8_11 rfl <| oY 32 X0 d8_12 (by decide) (flt (by decide)).2.1 <| oc 33 (v := 1) X0 d8_32 rfl (by decide) ?_
          exact o_nret (y := (1 : Int32)) (t := .boolean) X0 d8_33 rfl (by decide) (by simp) (by decide) (by decide) (fun _ CC => (own_eqP (by rw [hc1, hc2, hc3, hc4])))
        · refine oN 24 X0 d8_21 rfl (feq hc4).1 <| oc 25 (v := 0) X0 d8_24 rfl (by decide) ?_
          exact o_nret (y := (0 : Int32)) (t := .boolean) X0 d8_25 rfl (by decide) (by simp) (by decide) (by decide) (fun _ CC => (own_eqN (fun q => hc4 (List.cons.inj (List.cons.inj (List.cons.inj (List.cons.inj q).2).2).2).1)))
      · refine oN 24 X0 d8_21 rfl (feq hc3).1 <| oc 25 (v := 0) X0 d8_24 rfl (by decide) ?_
        exact o_nret (y := (0 : Int32)) (t := .boolean) X0 d8_25 rfl (by decide) (by simp) (by decide) (by decide) (fun _ CC => (own_eqN (fun q => hc3 (List.cons.inj (List.cons.inj (List.cons.inj q).2).2).1)))
    · refine oN 24 X0 d8_21 rfl (feq hc2).1 <| oc 25 (v := 0) X0 d8_24 rfl (by decide) ?_
      exact o_nret (y := (0 : Int32)) (t := .boolean) X0 d8_25 rfl (by decide) (by simp) (by decide) (by decide) (fun _ CC => (own_eqN (fun q => hc2 (List.cons.inj (List.cons.inj q).2).1)))
  · refine oN 24 X0 d8_21 rfl (feq hc1).1 <| oc 25 (v := 0) X0 d8_24 rfl (by decide) ?_
    exact o_nret (y := (0 : Int32)) (t := .boolean) X0 d8_25 rfl (by decide) (by simp) (by decide) (by decide) (fun _ CC => (own_eqN (fun q => hc1 (List.cons.inj q).1)))
theorem rm_eqB_r (F0 : av0 Z h0 pa1 pk1 4 [.int pi1, .int pi2, .int pi3, .int pi4]) : M8 G 0 0 0 0 #[.ref tu2, .ref pa1] h0 n0 [] [] (Q9 Z pi1 pi2 pi3 pi4 h0) := by
  refine mi B8 ef5 (hEW G) fun s X0 hsf0 n0le => ?_
  have := F0.l
  refine oA 1 X0 d8_0 rfl rfl ?_
  have f1 := (sg1 G).ext X0.old.2
  refine oL 2 X0 f1 d8_1 rfl <| oA 3 X0 d8_2 rfl rfl <| oL 4 X0 F0 d8_3 rfl <| oN 7 X0 d8_4 rfl (teq (by decide)).2 <| oc 8 (v := 0) X0 d8_7 rfl (by decide) <| oT 9 (l' := #[rr tu2, rr pa1, ii 0]) X0 d8_8 rfl rfl <| oI 10 X0 d8_9 rfl rfl <| oA 11 X0 d8_10 rfl rfl <| oL 12 X0 f1 d8_11 rfl <| oN 15 X0 d8_12 rfl (tlt (by decide)).2.1 <| oA 16 X0 d8_15 rfl rfl <| oI 17 X0 d8_16 rfl rfl ?_
  refine oB 18 (v := (.int 114)) X0 f1 ⟨by decide, by decide⟩ rfl d8_17 rfl <| oA 19 X0 d8_18 rfl rfl <| oI 20 X0 d8_19 rfl rfl <| oB 21 (v := (.int pi1)) X0 F0 ⟨by decide, by decide⟩ rfl d8_20 rfl ?_
  by_cases hc2 : (114 : Int32) = pi1
  · refine oY 26 X0 d8_21 (by decide) (teq hc2).1 <| oJ 29 1 #[rr tu2, rr pa1, ii 1] X0 d8_26 rfl rfl (by decide) rfl <| og 9 X0 d8_29 (by decide) <| oI 10 X0 d8_9 rfl rfl <| oA 11 X0 d8_10 rfl rfl <| oL 12 X0 f1 d8_11 rfl <| oN 15 X0 d8_12 rfl (tlt (by decide)).2.1 <| oA 16 X0 d8_15 rfl rfl <| oI 17 X0 d8_16 rfl rfl <| oB 18 (v := (.int 111)) X0 f1 ⟨by decide, by decide⟩ rfl d8_17 rfl <| oA 19 X0 d8_18 rfl rfl <| oI 20 X0 d8_19 rfl rfl ?_
    refine oB 21 (v := (.int pi2)) X0 F0 ⟨by decide, by decide⟩ rfl d8_20 rfl ?_
    by_cases hc3 : (111 : Int32) = pi2
    · refine oY 26 X0 d8_21 (by decide) (teq hc3).1 <| oJ 29 2 #[rr tu2, rr pa1, ii 2] X0 d8_26 rfl rfl (by decide) rfl <| og 9 X0 d8_29 (by decide) <| oI 10 X0 d8_9 rfl rfl <| oA 11 X0 d8_10 rfl rfl <| oL 12 X0 f1 d8_11 rfl <| oN 15 X0 d8_12 rfl (tlt (by decide)).2.1 <| oA 16 X0 d8_15 rfl rfl <| oI 17 X0 d8_16 rfl rfl <| oB 18 (v := (.int 108)) X0 f1 ⟨by decide, by decide⟩ rfl d8_17 rfl <| oA 19 X0 d8_18 rfl rfl <| oI 20 X0 d8_19 rfl rfl ?_
      refine oB 21 (v := (.int pi3)) X0 F0 ⟨by decide, by decide⟩ rfl d8_20 rfl ?_
      by_cases hc4 : (108 : Int32) = pi3
      · refine oY 26 X0 d8_21 (by decide) (teq hc4).1 <| oJ 29 3 #[rr tu2, rr pa1, ii 3] X0 d8_26 rfl rfl (by decide) rfl <| og 9 X0 d8_29 (by decide) <| oI 10 X0 d8_9 rfl rfl <| oA 11 X0 d8_10 rfl rfl <| oL 12 X0 f1 d8_11 rfl <| oN 15 X0 d8_12 rfl (tlt (by decide)).2.1 <| oA 16 X0 d8_15 rfl rfl <| oI 17 X0 d8_16 rfl rfl <| oB 18 (v := (.int 101)) X0 f1 ⟨by decide, by decide⟩ rfl d8_17 rfl <| oA 19 X0 d8_18 rfl rfl <| oI 20 X0 d8_19 rfl rfl ?_
        refine oB 21 (v := (.int pi4)) X0 F0 ⟨by decide, by decide⟩ rfl d8_20 rfl ?_
        by_cases hc5 : (101 : Int32) = pi4
        · refine oY 26 X0 d8_21 (by decide) (teq hc5).1 <| oJ 29 4 #[rr tu2, rr pa1, ii 4] X0 d8_26 rfl rfl (by decide) rfl <| og 9 X0 d8_29 (by decide) <| oI 10 X0 d8_9 rfl rfl <| oA 11 X0 d8_10 rfl rfl <| oL 12 X0 f1 d8_11 rfl <| oY 32 X0 d8_12 (by decide) (flt (by decide)).2.1 <| oc 33 (v := 1) X0 d8_32 rfl (by decide) ?_
          exact o_nret (y := (1 : Int32)) (t := .boolean) X0 d8_33 rfl (by decide) (by simp) (by decide) (by decide) (fun _ CC => (own_eqP (by rw [← hc2, ← hc3, ← hc4, ← hc5])))
        · refine oN 24 X0 d8_21 rfl (feq hc5).1 <| oc 25 (v := 0) X0 d8_24 rfl (by decide) ?_
          exact o_nret (y := (0 : Int32)) (t := .boolean) X0 d8_25 rfl (by decide) (by simp) (by decide) (by decide) (fun _ CC => (own_eqN (fun q => hc5 (List.cons.inj (List.cons.inj (List.cons.inj (List.cons.inj q).2).2).2).1.symm)))
      · refine oN 24 X0 d8_21 rfl (feq hc4).1 <| oc 25 (v := 0) X0 d8_24 rfl (by decide) ?_
        exact o_nret (y := (0 : Int32)) (t := .boolean) X0 d8_25 rfl (by decide) (by simp) (by decide) (by decide) (fun _ CC => (own_eqN (fun q => hc4 (List.cons.inj (List.cons.inj (List.cons.inj q).2).2).1.symm)))
    · refine oN 24 X0 d8_21 rfl (feq hc3).1 <| oc 25 (v := 0) X0 d8_24 rfl (by decide) ?_
      exact o_nret (y := (0 : Int32)) (t := .boolean) X0 d8_25 rfl (by decide) (by simp) (by decide) (by decide) (fun _ CC => (own_eqN (fun q => hc3 (List.cons.inj (List.cons.inj q).2).1.symm)))
  · refine oN 24 X0 d8_21 rfl (feq hc2).1 <| oc 25 (v := 0) X0 d8_24 rfl (by decide) ?_
    exact o_nret (y := (0 : Int32)) (t := .boolean) X0 d8_25 rfl (by decide) (by simp) (by decide) (by decide) (fun _ CC => (own_eqN (fun q => hc2 (List.cons.inj q).1.symm)))
def Q10 (Z : State) (b1 b2 b3 b4 b5 b6 b7 b8 b9 b10 b11 b12 b13 b14 b15 b16 b17 b18 b19 b20 b21 : Int32) (h0 : Heap) (v : Option Value) (h : Heap) (vm : Vm) : Prop := v = some (.int (oEq [b1, b2, b3, b4, b5, b6, b7, b8, b9, b10, b11, b12, b13, b14, b15, b16, b17, b18, b19, b20, b21] [114, 111, 108, 101, 45, 97, 110, 100, 45, 115, 117, 98, 111, 114, 100, 105, 110, 97, 116, 101, 115]))
theorem rm_eqA_a (F0 : av0 Z h0 pa1 pk1 21 [.int pi1, .int pi2, .int pi3, .int pi4, .int pi5, .int pi6, .int pi7, .int pi8, .int pi9, .int pi10, .int pi11, .int pi12, .int pi13, .int pi14, .int pi15, .int pi16, .int pi17, .int pi18, .int pi19, .int pi20, .int pi21]) (F1 : av0 Z h0 pa2 pk2 21 [.int 114, .int 111, .int 108, .int 101, .int 45, .int 97, .int 110, .int 100, .int 45, .int 115, .int 117, .int 98, .int 111, .int 114, .int 100, .int 105, .int 110, .int 97, .int 116, .int 101, .int 115]) : M8 G 0 0 0 0 #[.ref pa1, .ref pa2] h0 n0 [] [] (Q10 Z pi1 pi2 pi3 pi4 pi5 pi6 pi7 pi8 pi9 pi10 pi11 pi12 pi13 pi14 pi15 pi16 pi17 pi18 pi19 pi20 pi21 h0) := by
  refine mi B8 ef5 (hEW G) fun s X0 hsf0 n0le => ?_
  have := F0.l
  have := F1.l
  refine oA 1 X0 d8_0 rfl rfl <| oL 2 X0 F0 d8_1 rfl <| oA 3 X0 d8_2 rfl rfl <| oL 4 X0 F1 d8_3 rfl <| oN 7 X0 d8_4 rfl (teq (by decide)).2 <| oc 8 (v := 0) X0 d8_7 rfl (by decide) <| oT 9 (l' := #[rr pa1, rr pa2, ii 0]) X0 d8_8 rfl rfl <| oI 10 X0 d8_9 rfl rfl <| oA 11 X0 d8_10 rfl rfl <| oL 12 X0 F0 d8_11 rfl <| oN 15 X0 d8_12 rfl (tlt (by decide)).2.1 <| oA 16 X0 d8_15 rfl rfl ?_
  refine oI 17 X0 d8_16 rfl rfl <| oB 18 (v := (.int pi1)) X0 F0 ⟨by decide, by decide⟩ rfl d8_17 rfl <| oA 19 X0 d8_18 rfl rfl <| oI 20 X0 d8_19 rfl rfl <| oB 21 (v := (.int 114)) X0 F1 ⟨by decide, by decide⟩ rfl d8_20 rfl ?_
  by_cases hc1 : pi1 = (114 : Int32)
  · refine oY 26 X0 d8_21 (by decide) (teq hc1).1 <| oJ 29 1 #[rr pa1, rr pa2, ii 1] X0 d8_26 rfl rfl (by decide) rfl <| og 9 X0 d8_29 (by decide) <| oI 10 X0 d8_9 rfl rfl <| oA 11 X0 d8_10 rfl rfl <| oL 12 X0 F0 d8_11 rfl <| oN 15 X0 d8_12 rfl (tlt (by decide)).2.1 <| oA 16 X0 d8_15 rfl rfl <| oI 17 X0 d8_16 rfl rfl <| oB 18 (v := (.int pi2)) X0 F0 ⟨by decide, by decide⟩ rfl d8_17 rfl <| oA 19 X0 d8_18 rfl rfl <| oI 20 X0 d8_19 rfl rfl ?_
    refine oB 21 (v := (.int 111)) X0 F1 ⟨by decide, by decide⟩ rfl d8_20 rfl ?_
    by_cases hc2 : pi2 = (111 : Int32)
    · refine oY 26 X0 d8_21 (by decide) (teq hc2).1 <| oJ 29 2 #[rr pa1, rr pa2, ii 2] X0 d8_26 rfl rfl (by decide) rfl <| og 9 X0 d8_29 (by decide) <| oI 10 X0 d8_9 rfl rfl <| oA 11 X0 d8_10 rfl rfl <| oL 12 X0 F0 d8_11 rfl <| oN 15 X0 d8_12 rfl (tlt (by decide)).2.1 <| oA 16 X0 d8_15 rfl rfl <| oI 17 X0 d8_16 rfl rfl <| oB 18 (v := (.int pi3)) X0 F0 ⟨by decide, by decide⟩ rfl d8_17 rfl <| oA 19 X0 d8_18 rfl rfl <| oI 20 X0 d8_19 rfl rfl ?_
      refine oB 21 (v := (.int 108)) X0 F1 ⟨by decide, by decide⟩ rfl d8_20 rfl ?_
      by_cases hc3 : pi3 = (108 : Int32)
      · refine oY 26 X0 d8_21 (by decide) (teq hc3).1 <| oJ 29 3 #[rr pa1, rr pa2, ii 3] X0 d8_26 rfl rfl (by decide) rfl <| og 9 X0 d8_29 (by decide) <| oI 10 X0 d8_9 rfl rfl <| oA 11 X0 d8_10 rfl rfl <| oL 12 X0 F0 d8_11 rfl <| oN 15 X0 d8_12 rfl (tlt (by decide)).2.1 <| oA 16 X0 d8_15 rfl rfl <| oI 17 X0 d8_16 rfl rfl <| oB 18 (v := (.int pi4)) X0 F0 ⟨by decide, by decide⟩ rfl d8_17 rfl <| oA 19 X0 d8_18 rfl rfl <| oI 20 X0 d8_19 rfl rfl ?_
        refine oB 21 (v := (.int 101)) X0 F1 ⟨by decide, by decide⟩ rfl d8_20 rfl ?_
        by_cases hc4 : pi4 = (101 : Int32)
        · refine oY 26 X0 d8_21 (by decide) (teq hc4).1 <| oJ 29 4 #[rr pa1, rr pa2, ii 4] X0 d8_26 rfl rfl (by decide) rfl <| og 9 X0 d8_29 (by decide) <| oI 10 X0 d8_9 rfl rfl <| oA 11 X0 d8_10 rfl rfl <| oL 12 X0 F0 d8_11 rfl <| oN 15 X0 d8_12 rfl (tlt (by decide)).2.1 <| oA 16 X0 d8_15 rfl rfl <| oI 17 X0 d8_16 rfl rfl <| oB 18 (v := (.int pi5)) X0 F0 ⟨by decide, by decide⟩ rfl d8_17 rfl <| oA 19 X0 d8_18 rfl rfl <| oI 20 X0 d8_19 rfl rfl ?_
          refine oB 21 (v := (.int 45)) X0 F1 ⟨by decide, by decide⟩ rfl d8_20 rfl ?_
          by_cases hc5 : pi5 = (45 : Int32)
          · refine oY 26 X0 d8_21 (by decide) (teq hc5).1 <| oJ 29 5 #[rr pa1, rr pa2, ii 5] X0 d8_26 rfl rfl (by decide) rfl <| og 9 X0 d8_29 (by decide) <| oI 10 X0 d8_9 rfl rfl <| oA 11 X0 d8_10 rfl rfl <| oL 12 X0 F0 d8_11 rfl <| oN 15 X0 d8_12 rfl (tlt (by decide)).2.1 <| oA 16 X0 d8_15 rfl rfl <| oI 17 X0 d8_16 rfl rfl <| oB 18 (v := (.int pi6)) X0 F0 ⟨by decide, by decide⟩ rfl d8_17 rfl <| oA 19 X0 d8_18 rfl rfl <| oI 20 X0 d8_19 rfl rfl ?_
            refine oB 21 (v := (.int 97)) X0 F1 ⟨by decide, by decide⟩ rfl d8_20 rfl ?_
            by_cases hc6 : pi6 = (97 : Int32)
            · refine oY 26 X0 d8_21 (by decide) (teq hc6).1 <| oJ 29 6 #[rr pa1, rr pa2, ii 6] X0 d8_26 rfl rfl (by decide) rfl <| og 9 X0 d8_29 (by decide) <| oI 10 X0 d8_9 rfl rfl <| oA 11 X0 d8_10 rfl rfl <| oL 12 X0 F0 d8_11 rfl <| oN 15 X0 d8_12 rfl (tlt (by decide)).2.1 <| oA 16 X0 d8_15 rfl rfl <| oI 17 X0 d8_16 rfl rfl <| oB 18 (v := (.int pi7)) X0 F0 ⟨by decide, by decide⟩ rfl d8_17 rfl <| oA 19 X0 d8_18 rfl rfl <| oI 20 X0 d8_19 rfl rfl ?_
              refine oB 21 (v := (.int 110)) X0 F1 ⟨by decide, by decide⟩ rfl d8_20 rfl ?_
              by_cases hc7 : pi7 = (110 : Int32)
              · refine oY 26 X0 d8_21 (by decide) (teq hc7).1 <| oJ 29 7 #[rr pa1, rr pa2, ii 7] X0 d8_26 rfl rfl (by decide) rfl <| og 9 X0 d8_29 (by decide) <| oI 10 X0 d8_9 rfl rfl <| oA 11 X0 d8_10 rfl rfl <| oL 12 X0 F0 d8_11 rfl <| oN 15 X0 d8_12 rfl (tlt (by decide)).2.1 <| oA 16 X0 d8_15 rfl rfl <| oI 17 X0 d8_16 rfl rfl <| oB 18 (v := (.int pi8)) X0 F0 ⟨by decide, by decide⟩ rfl d8_17 rfl <| oA 19 X0 d8_18 rfl rfl <| oI 20 X0 d8_19 rfl rfl ?_
                refine oB 21 (v := (.int 100)) X0 F1 ⟨by decide, by decide⟩ rfl d8_20 rfl ?_
                by_cases hc8 : pi8 = (100 : Int32)
                · refine oY 26 X0 d8_21 (by decide) (teq hc8).1 <| oJ 29 8 #[rr pa1, rr pa2, ii 8] X0 d8_26 rfl rfl (by decide) rfl <| og 9 X0 d8_29 (by decide) <| oI 10 X0 d8_9 rfl rfl <| oA 11 X0 d8_10 rfl rfl <| oL 12 X0 F0 d8_11 rfl <| oN 15 X0 d8_12 rfl (tlt (by decide)).2.1 <| oA 16 X0 d8_15 rfl rfl <| oI 17 X0 d8_16 rfl rfl <| oB 18 (v := (.int pi9)) X0 F0 ⟨by decide, by decide⟩ rfl d8_17 rfl <| oA 19 X0 d8_18 rfl rfl <| oI 20 X0 d8_19 rfl rfl ?_
                  refine oB 21 (v := (.int 45)) X0 F1 ⟨by decide, by decide⟩ rfl d8_20 rfl ?_
                  by_cases hc9 : pi9 = (45 : Int32)
                  · refine oY 26 X0 d8_21 (by decide) (teq hc9).1 <| oJ 29 9 #[rr pa1, rr pa2, ii 9] X0 d8_26 rfl rfl (by decide) rfl <| og 9 X0 d8_29 (by decide) <| oI 10 X0 d8_9 rfl rfl <| oA 11 X0 d8_10 rfl rfl <| oL 12 X0 F0 d8_11 rfl <| oN 15 X0 d8_12 rfl (tlt (by decide)).2.1 <| oA 16 X0 d8_15 rfl rfl <| oI 17 X0 d8_16 rfl rfl <| oB 18 (v := (.int pi10)) X0 F0 ⟨by decide, by decide⟩ rfl d8_17 rfl <| oA 19 X0 d8_18 rfl rfl <| oI 20 X0 d8_19 rfl rfl ?_
                    refine oB 21 (v := (.int 115)) X0 F1 ⟨by decide, by decide⟩ rfl d8_20 rfl ?_
                    by_cases hc10 : pi10 = (115 : Int32)
                    · refine oY 26 X0 d8_21 (by decide) (teq hc10).1 <| oJ 29 10 #[rr pa1, rr pa2, ii 10] X0 d8_26 rfl rfl (by decide) rfl <| og 9 X0 d8_29 (by decide) <| oI 10 X0 d8_9 rfl rfl <| oA 11 X0 d8_10 rfl rfl <| oL 12 X0 F0 d8_11 rfl <| oN 15 X0 d8_12 rfl (tlt (by decide)).2.1 <| oA 16 X0 d8_15 rfl rfl <| oI 17 X0 d8_16 rfl rfl <| oB 18 (v := (.int pi11)) X0 F0 ⟨by decide, by decide⟩ rfl d8_17 rfl <| oA 19 X0 d8_18 rfl rfl <| oI 20 X0 d8_19 rfl rfl ?_
                      refine oB 21 (v := (.int 117)) X0 F1 ⟨by decide, by decide⟩ rfl d8_20 rfl ?_
                      by_cases hc11 : pi11 = (117 : Int32)
                      · refine oY 26 X0 d8_21 (by decide) (teq hc11).1 <| oJ 29 11 #[rr pa1, rr pa2, ii 11] X0 d8_26 rfl rfl (by decide) rfl <| og 9 X0 d8_29 (by decide) <| oI 10 X0 d8_9 rfl rfl <| oA 11 X0 d8_10 rfl rfl <| oL 12 X0 F0 d8_11 rfl <| oN 15 X0 d8_12 rfl (tlt (by decide)).2.1 <| oA 16 X0 d8_15 rfl rfl <| oI 17 X0 d8_16 rfl rfl <| oB 18 (v := (.int pi12)) X0 F0 ⟨by decide, by decide⟩ rfl d8_17 rfl <| oA 19 X0 d8_18 rfl rfl <| oI 20 X0 d8_19 rfl rfl ?_
                        refine oB 21 (v := (.int 98)) X0 F1 ⟨by decide, by decide⟩ rfl d8_20 rfl ?_
                        by_cases hc12 : pi12 = (98 : Int32)
                        · refine oY 26 X0 d8_21 (by decide) (teq hc12).1 <| oJ 29 12 #[rr pa1, rr pa2, ii 12] X0 d8_26 rfl rfl (by decide) rfl <| og 9 X0 d8_29 (by decide) <| oI 10 X0 d8_9 rfl rfl <| oA 11 X0 d8_10 rfl rfl <| oL 12 X0 F0 d8_11 rfl <| oN 15 X0 d8_12 rfl (tlt (by decide)).2.1 <| oA 16 X0 d8_15 rfl rfl <| oI 17 X0 d8_16 rfl rfl <| oB 18 (v := (.int pi13)) X0 F0 ⟨by decide, by decide⟩ rfl d8_17 rfl <| oA 19 X0 d8_18 rfl rfl <| oI 20 X0 d8_19 rfl rfl ?_
                          refine oB 21 (v := (.int 111)) X0 F1 ⟨by decide, by decide⟩ rfl d8_20 rfl ?_
                          by_cases hc13 : pi13 = (111 : Int32)
                          · refine oY 26 X0 d8_21 (by decide) (teq hc13).1 <| oJ 29 13 #[rr pa1, rr pa2, ii 13] X0 d8_26 rfl rfl (by decide) rfl <| og 9 X0 d8_29 (by decide) <| oI 10 X0 d8_9 rfl rfl <| oA 11 X0 d8_10 rfl rfl <| oL 12 X0 F0 d8_11 rfl <| oN 15 X0 d8_12 rfl (tlt (by decide)).2.1 <| oA 16 X0 d8_15 rfl rfl <| oI 17 X0 d8_16 rfl rfl <| oB 18 (v := (.int pi14)) X0 F0 ⟨by decide, by decide⟩ rfl d8_17 rfl <| oA 19 X0 d8_18 rfl rfl <| oI 20 X0 d8_19 rfl rfl ?_
                            refine oB 21 (v := (.int 114)) X0 F1 ⟨by decide, by decide⟩ rfl d8_20 rfl ?_
                            by_cases hc14 : pi14 = (114 : Int32)
                            · refine oY 26 X0 d8_21 (by decide) (teq hc14).1 <| oJ 29 14 #[rr pa1, rr pa2, ii 14] X0 d8_26 rfl rfl (by decide) rfl <| og 9 X0 d8_29 (by decide) <| oI 10 X0 d8_9 rfl rfl <| oA 11 X0 d8_10 rfl rfl <| oL 12 X0 F0 d8_11 rfl <| oN 15 X0 d8_12 rfl (tlt (by decide)).2.1 <| oA 16 X0 d8_15 rfl rfl <| oI 17 X0 d8_16 rfl rfl <| oB 18 (v := (.int pi15)) X0 F0 ⟨by decide, by decide⟩ rfl d8_17 rfl <| oA 19 X0 d8_18 rfl rfl <| oI 20 X0 d8_19 rfl rfl ?_
                              refine oB 21 (v := (.int 100)) X0 F1 ⟨by decide, by decide⟩ rfl d8_20 rfl ?_
                              by_cases hc15 : pi15 = (100 : Int32)
                              · refine oY 26 X0 d8_21 (by decide) (teq hc15).1 <| oJ 29 15 #[rr pa1, rr pa2, ii 15] X0 d8_26 rfl rfl (by decide) rfl <| og 9 X0 d8_29 (by decide) <| oI 10 X0 d8_9 rfl rfl <| oA 11 X0 d8_10 rfl rfl <| oL 12 X0 F0 d8_11 rfl <| oN 15 X0 d8_12 rfl (tlt (by decide)).2.1 <| oA 16 X0 d8_15 rfl rfl <| oI 17 X0 d8_16 rfl rfl <| oB 18 (v := (.int pi16)) X0 F0 ⟨by decide, by decide⟩ rfl d8_17 rfl <| oA 19 X0 d8_18 rfl rfl <| oI 20 X0 d8_19 rfl rfl ?_
                                refine oB 21 (v := (.int 105)) X0 F1 ⟨by decide, by decide⟩ rfl d8_20 rfl ?_
                                by_cases hc16 : pi16 = (105 : Int32)
                                · refine oY 26 X0 d8_21 (by decide) (teq hc16).1 <| oJ 29 16 #[rr pa1, rr pa2, ii 16] X0 d8_26 rfl rfl (by decide) rfl <| og 9 X0 d8_29 (by decide) <| oI 10 X0 d8_9 rfl rfl <| oA 11 X0 d8_10 rfl rfl <| oL 12 X0 F0 d8_11 rfl <| oN 15 X0 d8_12 rfl (tlt (by decide)).2.1 <| oA 16 X0 d8_15 rfl rfl <| oI 17 X0 d8_16 rfl rfl <| oB 18 (v := (.int pi17)) X0 F0 ⟨by decide, by decide⟩ rfl d8_17 rfl <| oA 19 X0 d8_18 rfl rfl <| oI 20 X0 d8_19 rfl rfl ?_
                                  refine oB 21 (v := (.int 110)) X0 F1 ⟨by decide, by decide⟩ rfl d8_20 rfl ?_
                                  by_cases hc17 : pi17 = (110 : Int32)
                                  · refine oY 26 X0 d8_21 (by decide) (teq hc17).1 <| oJ 29 17 #[rr pa1, rr pa2, ii 17] X0 d8_26 rfl rfl (by decide) rfl <| og 9 X0 d8_29 (by decide) <| oI 10 X0 d8_9 rfl rfl <| oA 11 X0 d8_10 rfl rfl <| oL 12 X0 F0 d8_11 rfl <| oN 15 X0 d8_12 rfl (tlt (by decide)).2.1 <| oA 16 X0 d8_15 rfl rfl <| oI 17 X0 d8_16 rfl rfl <| oB 18 (v := (.int pi18)) X0 F0 ⟨by decide, by decide⟩ rfl d8_17 rfl <| oA 19 X0 d8_18 rfl rfl <| oI 20 X0 d8_19 rfl rfl ?_
                                    refine oB 21 (v := (.int 97)) X0 F1 ⟨by decide, by decide⟩ rfl d8_20 rfl ?_
                                    by_cases hc18 : pi18 = (97 : Int32)
                                    · refine oY 26 X0 d8_21 (by decide) (teq hc18).1 <| oJ 29 18 #[rr pa1, rr pa2, ii 18] X0 d8_26 rfl rfl (by decide) rfl <| og 9 X0 d8_29 (by decide) <| oI 10 X0 d8_9 rfl rfl <| oA 11 X0 d8_10 rfl rfl <| oL 12 X0 F0 d8_11 rfl <| oN 15 X0 d8_12 rfl (tlt (by decide)).2.1 <| oA 16 X0 d8_15 rfl rfl <| oI 17 X0 d8_16 rfl rfl <| oB 18 (v := (.int pi19)) X0 F0 ⟨by decide, by decide⟩ rfl d8_17 rfl <| oA 19 X0 d8_18 rfl rfl <| oI 20 X0 d8_19 rfl rfl ?_
                                      refine oB 21 (v := (.int 116)) X0 F1 ⟨by decide, by decide⟩ rfl d8_20 rfl ?_
                                      by_cases hc19 : pi19 = (116 : Int32)
                                      · refine oY 26 X0 d8_21 (by decide) (teq hc19).1 <| oJ 29 19 #[rr pa1, rr pa2, ii 19] X0 d8_26 rfl rfl (by decide) rfl <| og 9 X0 d8_29 (by decide) <| oI 10 X0 d8_9 rfl rfl <| oA 11 X0 d8_10 rfl rfl <| oL 12 X0 F0 d8_11 rfl <| oN 15 X0 d8_12 rfl (tlt (by decide)).2.1 <| oA 16 X0 d8_15 rfl rfl <| oI 17 X0 d8_16 rfl rfl <| oB 18 (v := (.int pi20)) X0 F0 ⟨by decide, by decide⟩ rfl d8_17 rfl <| oA 19 X0 d8_18 rfl rfl <| oI 20 X0 d8_19 rfl rfl ?_
                                        refine oB 21 (v := (.int 101)) X0 F1 ⟨by decide, by decide⟩ rfl d8_20 rfl ?_
                                        by_cases hc20 : pi20 = (101 : Int32)
                                        · refine oY 26 X0 d8_21 (by decide) (teq hc20).1 <| oJ 29 20 #[rr pa1, rr pa2, ii 20] X0 d8_26 rfl rfl (by decide) rfl <| og 9 X0 d8_29 (by decide) <| oI 10 X0 d8_9 rfl rfl <| oA 11 X0 d8_10 rfl rfl <| oL 12 X0 F0 d8_11 rfl <| oN 15 X0 d8_12 rfl (tlt (by decide)).2.1 <| oA 16 X0 d8_15 rfl rfl <| oI 17 X0 d8_16 rfl rfl <| oB 18 (v := (.int pi21)) X0 F0 ⟨by decide, by decide⟩ rfl d8_17 rfl <| oA 19 X0 d8_18 rfl rfl <| oI 20 X0 d8_19 rfl rfl ?_
                                          refine oB 21 (v := (.int 115)) X0 F1 ⟨by decide, by decide⟩ rfl d8_20 rfl ?_
                                          by_cases hc21 : pi21 = (115 : Int32)
                                          · refine oY 26 X0 d8_21 (by decide) (teq hc21).1 <| oJ 29 21 #[rr pa1, rr pa2, ii 21] X0 d8_26 rfl rfl (by decide) rfl <| og 9 X0 d8_29 (by decide) <| oI 10 X0 d8_9 rfl rfl <| oA 11 X0 d8_10 rfl rfl <| oL 12 X0 F0 d8_11 rfl <| oY 32 X0 d8_12 (by decide) (flt (by decide)).2.1 <| oc 33 (v := 1) X0 d8_32 rfl (by decide) ?_
                                            exact o_nret (y := (1 : Int32)) (t := .boolean) X0 d8_33 rfl (by decide) (by simp) (by decide) (by decide) (fun _ CC => (own_eqP (by rw [hc1, hc2, hc3, hc4, hc5, hc6, hc7, hc8, hc9, hc10, hc11, hc12, hc13, hc14, hc15, hc16, hc17, hc18, hc19, hc20, hc21])))
                                          · refine oN 24 X0 d8_21 rfl (feq hc21).1 <| oc 25 (v := 0) X0 d8_24 rfl (by decide) ?_
                                            exact o_nret (y := (0 : Int32)) (t := .boolean) X0 d8_25 rfl (by decide) (by simp) (by decide) (by decide) (fun _ CC => (own_eqN (fun q => hc21 (List.cons.inj (List.cons.inj (List.cons.inj (List.cons.inj (List.cons.inj (List.cons.inj (List.cons.inj (List.cons.inj (List.cons.inj (List.cons.inj (List.cons.inj (List.cons.inj (List.cons.inj (List.cons.inj (List.cons.inj (List.cons.inj (List.cons.inj (List.cons.inj (List.cons.inj (List.cons.inj (List.cons.inj q).2).2).2).2).2).2).2).2).2).2).2).2).2).2).2).2).2).2).2).2).1)))
                                        · refine oN 24 X0 d8_21 rfl (feq hc20).1 <| oc 25 (v := 0) X0 d8_24 rfl (by decide) ?_
                                          exact o_nret (y := (0 : Int32)) (t := .boolean) X0 d8_25 rfl (by decide) (by simp) (by decide) (by decide) (fun _ CC => (own_eqN (fun q => hc20 (List.cons.inj (List.cons.inj (List.cons.inj (List.cons.inj (List.cons.inj (List.cons.inj (List.cons.inj (List.cons.inj (List.cons.inj (List.cons.inj (List.cons.inj (List.cons.inj (List.cons.inj (List.cons.inj (List.cons.inj (List.cons.inj (List.cons.inj (List.cons.inj (List.cons.inj (List.cons.inj q).2).2).2).2).2).2).2).2).2).2).2).2).2).2).2).2).2).2).2).1)))
                                      · refine oN 24 X0 d8_21 rfl (feq hc19).1 <| oc 25 (v := 0) X0 d8_24 rfl (by decide) ?_
                                        exact o_nret (y := (0 : Int32)) (t := .boolean) X0 d8_25 rfl (by decide) (by simp) (by decide) (by decide) (fun _ CC => (own_eqN (fun q => hc19 (List.cons.inj (List.cons.inj (List.cons.inj (List.cons.inj (List.cons.inj (List.cons.inj (List.cons.inj (List.cons.inj (List.cons.inj (List.cons.inj (List.cons.inj (List.cons.inj (List.cons.inj (List.cons.inj (List.cons.inj (List.cons.inj (List.cons.inj (List.cons.inj (List.cons.inj q).2).2).2).2).2).2).2).2).2).2).2).2).2).2).2).2).2).2).1)))
                                    · refine oN 24 X0 d8_21 rfl (feq hc18).1 <| oc 25 (v := 0) X0 d8_24 rfl (by decide) ?_
                                      exact o_nret (y := (0 : Int32)) (t := .boolean) X0 d8_25 rfl (by decide) (by simp) (by decide) (by decide) (fun _ CC => (own_eqN (fun q => hc18 (List.cons.inj (List.cons.inj (List.cons.inj (List.cons.inj (List.cons.inj (List.cons.inj (List.cons.inj (List.cons.inj (List.cons.inj (List.cons.inj (List.cons.inj (List.cons.inj (List.cons.inj (List.cons.inj (List.cons.inj (List.cons.inj (List.cons.inj (List.cons.inj q).2).2).2).2).2).2).2).2).2).2).2).2).2).2).2).2).2).1)))
                                  · refine oN 24 X0 d8_21 rfl (feq hc17).1 <| oc 25 (v := 0) X0 d8_24 rfl (by decide) ?_
                                    exact o_nret (y := (0 : Int32)) (t := .boolean) X0 d8_25 rfl (by decide) (by simp) (by decide) (by decide) (fun _ CC => (own_eqN (fun q => hc17 (List.cons.inj (List.cons.inj (List.cons.inj (List.cons.inj (List.cons.inj (List.cons.inj (List.cons.inj (List.cons.inj (List.cons.inj (List.cons.inj (List.cons.inj (List.cons.inj (List.cons.inj (List.cons.inj (List.cons.inj (List.cons.inj (List.cons.inj q).2).2).2).2).2).2).2).2).2).2).2).2).2).2).2).2).1)))
                                · refine oN 24 X0 d8_21 rfl (feq hc16).1 <| oc 25 (v := 0) X0 d8_24 rfl (by decide) ?_
                                  exact o_nret (y := (0 : Int32)) (t := .boolean) X0 d8_25 rfl (by decide) (by simp) (by decide) (by decide) (fun _ CC => (own_eqN (fun q => hc16 (List.cons.inj (List.cons.inj (List.cons.inj (List.cons.inj (List.cons.inj (List.cons.inj (List.cons.inj (List.cons.inj (List.cons.inj (List.cons.inj (List.cons.inj (List.cons.inj (List.cons.inj (List.cons.inj (List.cons.inj (List.cons.inj q).2).2).2).2).2).2).2).2).2).2).2).2).2).2).2).1)))
                              · refine oN 24 X0 d8_21 rfl (feq hc15).1 <| oc 25 (v := 0) X0 d8_24 rfl (by decide) ?_
                                exact o_nret (y := (0 : Int32)) (t := .boolean) X0 d8_25 rfl (by decide) (by simp) (by decide) (by decide) (fun _ CC => (own_eqN (fun q => hc15 (List.cons.inj (List.cons.inj (List.cons.inj (List.cons.inj (List.cons.inj (List.cons.inj (List.cons.inj (List.cons.inj (List.cons.inj (List.cons.inj (List.cons.inj (List.cons.inj (List.cons.inj (List.cons.inj (List.cons.inj q).2).2).2).2).2).2).2).2).2).2).2).2).2).2).1)))
                            · refine oN 24 X0 d8_21 rfl (feq hc14).1 <| oc 25 (v := 0) X0 d8_24 rfl (by decide) ?_
                              exact o_nret (y := (0 : Int32)) (t := .boolean) X0 d8_25 rfl (by decide) (by simp) (by decide) (by decide) (fun _ CC => (own_eqN (fun q => hc14 (List.cons.inj (List.cons.inj (List.cons.inj (List.cons.inj (List.cons.inj (List.cons.inj (List.cons.inj (List.cons.inj (List.cons.inj (List.cons.inj (List.cons.inj (List.cons.inj (List.cons.inj (List.cons.inj q).2).2).2).2).2).2).2).2).2).2).2).2).2).1)))
                          · refine oN 24 X0 d8_21 rfl (feq hc13).1 <| oc 25 (v := 0) X0 d8_24 rfl (by decide) ?_
                            exact o_nret (y := (0 : Int32)) (t := .boolean) X0 d8_25 rfl (by decide) (by simp) (by decide) (by decide) (fun _ CC => (own_eqN (fun q => hc13 (List.cons.inj (List.cons.inj (List.cons.inj (List.cons.inj (List.cons.inj (List.cons.inj (List.cons.inj (List.cons.inj (List.cons.inj (List.cons.inj (List.cons.inj (List.cons.inj (List.cons.inj q).2).2).2).2).2).2).2).2).2).2).2).2).1)))
                        · refine oN 24 X0 d8_21 rfl (feq hc12).1 <| oc 25 (v := 0) X0 d8_24 rfl (by decide) ?_
                          exact o_nret (y := (0 : Int32)) (t := .boolean) X0 d8_25 rfl (by decide) (by simp) (by decide) (by decide) (fun _ CC => (own_eqN (fun q => hc12 (List.cons.inj (List.cons.inj (List.cons.inj (List.cons.inj (List.cons.inj (List.cons.inj (List.cons.inj (List.cons.inj (List.cons.inj (List.cons.inj (List.cons.inj (List.cons.inj q).2).2).2).2).2).2).2).2).2).2).2).1)))
                      · refine oN 24 X0 d8_21 rfl (feq hc11).1 <| oc 25 (v := 0) X0 d8_24 rfl (by decide) ?_
                        exact o_nret (y := (0 : Int32)) (t := .boolean) X0 d8_25 rfl (by decide) (by simp) (by decide) (by decide) (fun _ CC => (own_eqN (fun q => hc11 (List.cons.inj (List.cons.inj (List.cons.inj (List.cons.inj (List.cons.inj (List.cons.inj (List.cons.inj (List.cons.inj (List.cons.inj (List.cons.inj (List.cons.inj q).2).2).2).2).2).2).2).2).2).2).1)))
                    · refine oN 24 X0 d8_21 rfl (feq hc10).1 <| oc 25 (v := 0) X0 d8_24 rfl (by decide) ?_
                      exact o_nret (y := (0 : Int32)) (t := .boolean) X0 d8_25 rfl (by decide) (by simp) (by decide) (by decide) (fun _ CC => (own_eqN (fun q => hc10 (List.cons.inj (List.cons.inj (List.cons.inj (List.cons.inj (List.cons.inj (List.cons.inj (List.cons.inj (List.cons.inj (List.cons.inj (List.cons.inj q).2).2).2).2).2).2).2).2).2).1)))
                  · refine oN 24 X0 d8_21 rfl (feq hc9).1 <| oc 25 (v := 0) X0 d8_24 rfl (by decide) ?_
                    exact o_nret (y := (0 : Int32)) (t := .boolean) X0 d8_25 rfl (by decide) (by simp) (by decide) (by decide) (fun _ CC => (own_eqN (fun q => hc9 (List.cons.inj (List.cons.inj (List.cons.inj (List.cons.inj (List.cons.inj (List.cons.inj (List.cons.inj (List.cons.inj (List.cons.inj q).2).2).2).2).2).2).2).2).1)))
                · refine oN 24 X0 d8_21 rfl (feq hc8).1 <| oc 25 (v := 0) X0 d8_24 rfl (by decide) ?_
                  exact o_nret (y := (0 : Int32)) (t := .boolean) X0 d8_25 rfl (by decide) (by simp) (by decide) (by decide) (fun _ CC => (own_eqN (fun q => hc8 (List.cons.inj (List.cons.inj (List.cons.inj (List.cons.inj (List.cons.inj (List.cons.inj (List.cons.inj (List.cons.inj q).2).2).2).2).2).2).2).1)))
              · refine oN 24 X0 d8_21 rfl (feq hc7).1 <| oc 25 (v := 0) X0 d8_24 rfl (by decide) ?_
                exact o_nret (y := (0 : Int32)) (t := .boolean) X0 d8_25 rfl (by decide) (by simp) (by decide) (by decide) (fun _ CC => (own_eqN (fun q => hc7 (List.cons.inj (List.cons.inj (List.cons.inj (List.cons.inj (List.cons.inj (List.cons.inj (List.cons.inj q).2).2).2).2).2).2).1)))
            · refine oN 24 X0 d8_21 rfl (feq hc6).1 <| oc 25 (v := 0) X0 d8_24 rfl (by decide) ?_
              exact o_nret (y := (0 : Int32)) (t := .boolean) X0 d8_25 rfl (by decide) (by simp) (by decide) (by decide) (fun _ CC => (own_eqN (fun q => hc6 (List.cons.inj (List.cons.inj (List.cons.inj (List.cons.inj (List.cons.inj (List.cons.inj q).2).2).2).2).2).1)))
          · refine oN 24 X0 d8_21 rfl (feq hc5).1 <| oc 25 (v := 0) X0 d8_24 rfl (by decide) ?_
            exact o_nret (y := (0 : Int32)) (t := .boolean) X0 d8_25 rfl (by decide) (by simp) (by decide) (by decide) (fun _ CC => (own_eqN (fun q => hc5 (List.cons.inj (List.cons.inj (List.cons.inj (List.cons.inj (List.cons.inj q).2).2).2).2).1)))
        · refine oN 24 X0 d8_21 rfl (feq hc4).1 <| oc 25 (v := 0) X0 d8_24 rfl (by decide) ?_
          exact o_nret (y := (0 : Int32)) (t := .boolean) X0 d8_25 rfl (by decide) (by simp) (by decide) (by decide) (fun _ CC => (own_eqN (fun q => hc4 (List.cons.inj (List.cons.inj (List.cons.inj (List.cons.inj q).2).2).2).1)))
      · refine oN 24 X0 d8_21 rfl (feq hc3).1 <| oc 25 (v := 0) X0 d8_24 rfl (by decide) ?_
        exact o_nret (y := (0 : Int32)) (t := .boolean) X0 d8_25 rfl (by decide) (by simp) (by decide) (by decide) (fun _ CC => (own_eqN (fun q => hc3 (List.cons.inj (List.cons.inj (List.cons.inj q).2).2).1)))
    · refine oN 24 X0 d8_21 rfl (feq hc2).1 <| oc 25 (v := 0) X0 d8_24 rfl (by decide) ?_
      exact o_nret (y := (0 : Int32)) (t := .boolean) X0 d8_25 rfl (by decide) (by simp) (by decide) (by decide) (fun _ CC => (own_eqN (fun q => hc2 (List.cons.inj (List.cons.inj q).2).1)))
  · refine oN 24 X0 d8_21 rfl (feq hc1).1 <| oc 25 (v := 0) X0 d8_24 rfl (by decide) ?_
    exact o_nret (y := (0 : Int32)) (t := .boolean) X0 d8_25 rfl (by decide) (by simp) (by decide) (by decide) (fun _ CC => (own_eqN (fun q => hc1 (List.cons.inj q).1)))
theorem rm_eqB_a (F0 : av0 Z h0 pa1 pk1 21 [.int pi1, .int pi2, .int pi3, .int pi4, .int pi5, .int pi6, .int pi7, .int pi8, .int pi9, .int pi10, .int pi11, .int pi12, .int pi13, .int pi14, .int pi15, .int pi16, .int pi17, .int pi18, .int pi19, .int pi20, .int pi21]) : M8 G 0 0 0 0 #[.ref tu3, .ref pa1] h0 n0 [] [] (Q10 Z pi1 pi2 pi3 pi4 pi5 pi6 pi7 pi8 pi9 pi10 pi11 pi12 pi13 pi14 pi15 pi16 pi17 pi18 pi19 pi20 pi21 h0) := by
  refine mi B8 ef5 (hEW G) fun s X0 hsf0 n0le => ?_
  have := F0.l
  refine oA 1 X0 d8_0 rfl rfl ?_
  have f1 := (sg2 G).ext X0.old.2
  refine oL 2 X0 f1 d8_1 rfl <| oA 3 X0 d8_2 rfl rfl <| oL 4 X0 F0 d8_3 rfl <| oN 7 X0 d8_4 rfl (teq (by decide)).2 <| oc 8 (v := 0) X0 d8_7 rfl (by decide) <| oT 9 (l' := #[rr tu3, rr pa1, ii 0]) X0 d8_8 rfl rfl <| oI 10 X0 d8_9 rfl rfl <| oA 11 X0 d8_10 rfl rfl <| oL 12 X0 f1 d8_11 rfl <| oN 15 X0 d8_12 rfl (tlt (by decide)).2.1 <| oA 16 X0 d8_15 rfl rfl <| oI 17 X0 d8_16 rfl rfl ?_
  refine oB 18 (v := (.int 114)) X0 f1 ⟨by decide, by decide⟩ rfl d8_17 rfl <| oA 19 X0 d8_18 rfl rfl <| oI 20 X0 d8_19 rfl rfl <| oB 21 (v := (.int pi1)) X0 F0 ⟨by decide, by decide⟩ rfl d8_20 rfl ?_
  by_cases hc2 : (114 : Int32) = pi1
  · refine oY 26 X0 d8_21 (by decide) (teq hc2).1 <| oJ 29 1 #[rr tu3, rr pa1, ii 1] X0 d8_26 rfl rfl (by decide) rfl <| og 9 X0 d8_29 (by decide) <| oI 10 X0 d8_9 rfl rfl <| oA 11 X0 d8_10 rfl rfl <| oL 12 X0 f1 d8_11 rfl <| oN 15 X0 d8_12 rfl (tlt (by decide)).2.1 <| oA 16 X0 d8_15 rfl rfl <| oI 17 X0 d8_16 rfl rfl <| oB 18 (v := (.int 111)) X0 f1 ⟨by decide, by decide⟩ rfl d8_17 rfl <| oA 19 X0 d8_18 rfl rfl <| oI 20 X0 d8_19 rfl rfl ?_
    refine oB 21 (v := (.int pi2)) X0 F0 ⟨by decide, by decide⟩ rfl d8_20 rfl ?_
    by_cases hc3 : (111 : Int32) = pi2
    · refine oY 26 X0 d8_21 (by decide) (teq hc3).1 <| oJ 29 2 #[rr tu3, rr pa1, ii 2] X0 d8_26 rfl rfl (by decide) rfl <| og 9 X0 d8_29 (by decide) <| oI 10 X0 d8_9 rfl rfl <| oA 11 X0 d8_10 rfl rfl <| oL 12 X0 f1 d8_11 rfl <| oN 15 X0 d8_12 rfl (tlt (by decide)).2.1 <| oA 16 X0 d8_15 rfl rfl <| oI 17 X0 d8_16 rfl rfl <| oB 18 (v := (.int 108)) X0 f1 ⟨by decide, by decide⟩ rfl d8_17 rfl <| oA 19 X0 d8_18 rfl rfl <| oI 20 X0 d8_19 rfl rfl ?_
      refine oB 21 (v := (.int pi3)) X0 F0 ⟨by decide, by decide⟩ rfl d8_20 rfl ?_
      by_cases hc4 : (108 : Int32) = pi3
      · refine oY 26 X0 d8_21 (by decide) (teq hc4).1 <| oJ 29 3 #[rr tu3, rr pa1, ii 3] X0 d8_26 rfl rfl (by decide) rfl <| og 9 X0 d8_29 (by decide) <| oI 10 X0 d8_9 rfl rfl <| oA 11 X0 d8_10 rfl rfl <| oL 12 X0 f1 d8_11 rfl <| oN 15 X0 d8_12 rfl (tlt (by decide)).2.1 <| oA 16 X0 d8_15 rfl rfl <| oI 17 X0 d8_16 rfl rfl <| oB 18 (v := (.int 101)) X0 f1 ⟨by decide, by decide⟩ rfl d8_17 rfl <| oA 19 X0 d8_18 rfl rfl <| oI 20 X0 d8_19 rfl rfl ?_
        refine oB 21 (v := (.int pi4)) X0 F0 ⟨by decide, by decide⟩ rfl d8_20 rfl ?_
        by_cases hc5 : (101 : Int32) = pi4
        · refine oY 26 X0 d8_21 (by decide) (teq hc5).1 <| oJ 29 4 #[rr tu3, rr pa1, ii 4] X0 d8_26 rfl rfl (by decide) rfl <| og 9 X0 d8_29 (by decide) <| oI 10 X0 d8_9 rfl rfl <| oA 11 X0 d8_10 rfl rfl <| oL 12 X0 f1 d8_11 rfl <| oN 15 X0 d8_12 rfl (tlt (by decide)).2.1 <| oA 16 X0 d8_15 rfl rfl <| oI 17 X0 d8_16 rfl rfl <| oB 18 (v := (.int 45)) X0 f1 ⟨by decide, by decide⟩ rfl d8_17 rfl <| oA 19 X0 d8_18 rfl rfl <| oI 20 X0 d8_19 rfl rfl ?_
          refine oB 21 (v := (.int pi5)) X0 F0 ⟨by decide, by decide⟩ rfl d8_20 rfl ?_
          by_cases hc6 : (45 : Int32) = pi5
          · refine oY 26 X0 d8_21 (by decide) (teq hc6).1 <| oJ 29 5 #[rr tu3, rr pa1, ii 5] X0 d8_26 rfl rfl (by decide) rfl <| og 9 X0 d8_29 (by decide) <| oI 10 X0 d8_9 rfl rfl <| oA 11 X0 d8_10 rfl rfl <| oL 12 X0 f1 d8_11 rfl <| oN 15 X0 d8_12 rfl (tlt (by decide)).2.1 <| oA 16 X0 d8_15 rfl rfl <| oI 17 X0 d8_16 rfl rfl <| oB 18 (v := (.int 97)) X0 f1 ⟨by decide, by decide⟩ rfl d8_17 rfl <| oA 19 X0 d8_18 rfl rfl <| oI 20 X0 d8_19 rfl rfl ?_
            refine oB 21 (v := (.int pi6)) X0 F0 ⟨by decide, by decide⟩ rfl d8_20 rfl ?_
            by_cases hc7 : (97 : Int32) = pi6
            · refine oY 26 X0 d8_21 (by decide) (teq hc7).1 <| oJ 29 6 #[rr tu3, rr pa1, ii 6] X0 d8_26 rfl rfl (by decide) rfl <| og 9 X0 d8_29 (by decide) <| oI 10 X0 d8_9 rfl rfl <| oA 11 X0 d8_10 rfl rfl <| oL 12 X0 f1 d8_11 rfl <| oN 15 X0 d8_12 rfl (tlt (by decide)).2.1 <| oA 16 X0 d8_15 rfl rfl <| oI 17 X0 d8_16 rfl rfl <| oB 18 (v := (.int 110)) X0 f1 ⟨by decide, by decide⟩ rfl d8_17 rfl <| oA 19 X0 d8_18 rfl rfl <| oI 20 X0 d8_19 rfl rfl ?_
              refine oB 21 (v := (.int pi7)) X0 F0 ⟨by decide, by decide⟩ rfl d8_20 rfl ?_
              by_cases hc8 : (110 : Int32) = pi7
              · refine oY 26 X0 d8_21 (by decide) (teq hc8).1 <| oJ 29 7 #[rr tu3, rr pa1, ii 7] X0 d8_26 rfl rfl (by decide) rfl <| og 9 X0 d8_29 (by decide) <| oI 10 X0 d8_9 rfl rfl <| oA 11 X0 d8_10 rfl rfl <| oL 12 X0 f1 d8_11 rfl <| oN 15 X0 d8_12 rfl (tlt (by decide)).2.1 <| oA 16 X0 d8_15 rfl rfl <| oI 17 X0 d8_16 rfl rfl <| oB 18 (v := (.int 100)) X0 f1 ⟨by decide, by decide⟩ rfl d8_17 rfl <| oA 19 X0 d8_18 rfl rfl <| oI 20 X0 d8_19 rfl rfl ?_
                refine oB 21 (v := (.int pi8)) X0 F0 ⟨by decide, by decide⟩ rfl d8_20 rfl ?_
                by_cases hc9 : (100 : Int32) = pi8
                · refine oY 26 X0 d8_21 (by decide) (teq hc9).1 <| oJ 29 8 #[rr tu3, rr pa1, ii 8] X0 d8_26 rfl rfl (by decide) rfl <| og 9 X0 d8_29 (by decide) <| oI 10 X0 d8_9 rfl rfl <| oA 11 X0 d8_10 rfl rfl <| oL 12 X0 f1 d8_11 rfl <| oN 15 X0 d8_12 rfl (tlt (by decide)).2.1 <| oA 16 X0 d8_15 rfl rfl <| oI 17 X0 d8_16 rfl rfl <| oB 18 (v := (.int 45)) X0 f1 ⟨by decide, by decide⟩ rfl d8_17 rfl <| oA 19 X0 d8_18 rfl rfl <| oI 20 X0 d8_19 rfl rfl ?_
                  refine oB 21 (v := (.int pi9)) X0 F0 ⟨by decide, by decide⟩ rfl d8_20 rfl ?_
                  by_cases hc10 : (45 : Int32) = pi9
                  · refine oY 26 X0 d8_21 (by decide) (teq hc10).1 <| oJ 29 9 #[rr tu3, rr pa1, ii 9] X0 d8_26 rfl rfl (by decide) rfl <| og 9 X0 d8_29 (by decide) <| oI 10 X0 d8_9 rfl rfl <| oA 11 X0 d8_10 rfl rfl <| oL 12 X0 f1 d8_11 rfl <| oN 15 X0 d8_12 rfl (tlt (by decide)).2.1 <| oA 16 X0 d8_15 rfl rfl <| oI 17 X0 d8_16 rfl rfl <| oB 18 (v := (.int 115)) X0 f1 ⟨by decide, by decide⟩ rfl d8_17 rfl <| oA 19 X0 d8_18 rfl rfl <| oI 20 X0 d8_19 rfl rfl ?_
                    refine oB 21 (v := (.int pi10)) X0 F0 ⟨by decide, by decide⟩ rfl d8_20 rfl ?_
                    by_cases hc11 : (115 : Int32) = pi10
                    · refine oY 26 X0 d8_21 (by decide) (teq hc11).1 <| oJ 29 10 #[rr tu3, rr pa1, ii 10] X0 d8_26 rfl rfl (by decide) rfl <| og 9 X0 d8_29 (by decide) <| oI 10 X0 d8_9 rfl rfl <| oA 11 X0 d8_10 rfl rfl <| oL 12 X0 f1 d8_11 rfl <| oN 15 X0 d8_12 rfl (tlt (by decide)).2.1 <| oA 16 X0 d8_15 rfl rfl <| oI 17 X0 d8_16 rfl rfl <| oB 18 (v := (.int 117)) X0 f1 ⟨by decide, by decide⟩ rfl d8_17 rfl <| oA 19 X0 d8_18 rfl rfl <| oI 20 X0 d8_19 rfl rfl ?_
                      refine oB 21 (v := (.int pi11)) X0 F0 ⟨by decide, by decide⟩ rfl d8_20 rfl ?_
                      by_cases hc12 : (117 : Int32) = pi11
                      · refine oY 26 X0 d8_21 (by decide) (teq hc12).1 <| oJ 29 11 #[rr tu3, rr pa1, ii 11] X0 d8_26 rfl rfl (by decide) rfl <| og 9 X0 d8_29 (by decide) <| oI 10 X0 d8_9 rfl rfl <| oA 11 X0 d8_10 rfl rfl <| oL 12 X0 f1 d8_11 rfl <| oN 15 X0 d8_12 rfl (tlt (by decide)).2.1 <| oA 16 X0 d8_15 rfl rfl <| oI 17 X0 d8_16 rfl rfl <| oB 18 (v := (.int 98)) X0 f1 ⟨by decide, by decide⟩ rfl d8_17 rfl <| oA 19 X0 d8_18 rfl rfl <| oI 20 X0 d8_19 rfl rfl ?_
                        refine oB 21 (v := (.int pi12)) X0 F0 ⟨by decide, by decide⟩ rfl d8_20 rfl ?_
                        by_cases hc13 : (98 : Int32) = pi12
                        · refine oY 26 X0 d8_21 (by decide) (teq hc13).1 <| oJ 29 12 #[rr tu3, rr pa1, ii 12] X0 d8_26 rfl rfl (by decide) rfl <| og 9 X0 d8_29 (by decide) <| oI 10 X0 d8_9 rfl rfl <| oA 11 X0 d8_10 rfl rfl <| oL 12 X0 f1 d8_11 rfl <| oN 15 X0 d8_12 rfl (tlt (by decide)).2.1 <| oA 16 X0 d8_15 rfl rfl <| oI 17 X0 d8_16 rfl rfl <| oB 18 (v := (.int 111)) X0 f1 ⟨by decide, by decide⟩ rfl d8_17 rfl <| oA 19 X0 d8_18 rfl rfl <| oI 20 X0 d8_19 rfl rfl ?_
                          refine oB 21 (v := (.int pi13)) X0 F0 ⟨by decide, by decide⟩ rfl d8_20 rfl ?_
                          by_cases hc14 : (111 : Int32) = pi13
                          · refine oY 26 X0 d8_21 (by decide) (teq hc14).1 <| oJ 29 13 #[rr tu3, rr pa1, ii 13] X0 d8_26 rfl rfl (by decide) rfl <| og 9 X0 d8_29 (by decide) <| oI 10 X0 d8_9 rfl rfl <| oA 11 X0 d8_10 rfl rfl <| oL 12 X0 f1 d8_11 rfl <| oN 15 X0 d8_12 rfl (tlt (by decide)).2.1 <| oA 16 X0 d8_15 rfl rfl <| oI 17 X0 d8_16 rfl rfl <| oB 18 (v := (.int 114)) X0 f1 ⟨by decide, by decide⟩ rfl d8_17 rfl <| oA 19 X0 d8_18 rfl rfl <| oI 20 X0 d8_19 rfl rfl ?_
                            refine oB 21 (v := (.int pi14)) X0 F0 ⟨by decide, by decide⟩ rfl d8_20 rfl ?_
                            by_cases hc15 : (114 : Int32) = pi14
                            · refine oY 26 X0 d8_21 (by decide) (teq hc15).1 <| oJ 29 14 #[rr tu3, rr pa1, ii 14] X0 d8_26 rfl rfl (by decide) rfl <| og 9 X0 d8_29 (by decide) <| oI 10 X0 d8_9 rfl rfl <| oA 11 X0 d8_10 rfl rfl <| oL 12 X0 f1 d8_11 rfl <| oN 15 X0 d8_12 rfl (tlt (by decide)).2.1 <| oA 16 X0 d8_15 rfl rfl <| oI 17 X0 d8_16 rfl rfl <| oB 18 (v := (.int 100)) X0 f1 ⟨by decide, by decide⟩ rfl d8_17 rfl <| oA 19 X0 d8_18 rfl rfl <| oI 20 X0 d8_19 rfl rfl ?_
                              refine oB 21 (v := (.int pi15)) X0 F0 ⟨by decide, by decide⟩ rfl d8_20 rfl ?_
                              by_cases hc16 : (100 : Int32) = pi15
                              · refine oY 26 X0 d8_21 (by decide) (teq hc16).1 <| oJ 29 15 #[rr tu3, rr pa1, ii 15] X0 d8_26 rfl rfl (by decide) rfl <| og 9 X0 d8_29 (by decide) <| oI 10 X0 d8_9 rfl rfl <| oA 11 X0 d8_10 rfl rfl <| oL 12 X0 f1 d8_11 rfl <| oN 15 X0 d8_12 rfl (tlt (by decide)).2.1 <| oA 16 X0 d8_15 rfl rfl <| oI 17 X0 d8_16 rfl rfl <| oB 18 (v := (.int 105)) X0 f1 ⟨by decide, by decide⟩ rfl d8_17 rfl <| oA 19 X0 d8_18 rfl rfl <| oI 20 X0 d8_19 rfl rfl ?_
                                refine oB 21 (v := (.int pi16)) X0 F0 ⟨by decide, by decide⟩ rfl d8_20 rfl ?_
                                by_cases hc17 : (105 : Int32) = pi16
                                · refine oY 26 X0 d8_21 (by decide) (teq hc17).1 <| oJ 29 16 #[rr tu3, rr pa1, ii 16] X0 d8_26 rfl rfl (by decide) rfl <| og 9 X0 d8_29 (by decide) <| oI 10 X0 d8_9 rfl rfl <| oA 11 X0 d8_10 rfl rfl <| oL 12 X0 f1 d8_11 rfl <| oN 15 X0 d8_12 rfl (tlt (by decide)).2.1 <| oA 16 X0 d8_15 rfl rfl <| oI 17 X0 d8_16 rfl rfl <| oB 18 (v := (.int 110)) X0 f1 ⟨by decide, by decide⟩ rfl d8_17 rfl <| oA 19 X0 d8_18 rfl rfl <| oI 20 X0 d8_19 rfl rfl ?_
                                  refine oB 21 (v := (.int pi17)) X0 F0 ⟨by decide, by decide⟩ rfl d8_20 rfl ?_
                                  by_cases hc18 : (110 : Int32) = pi17
                                  · refine oY 26 X0 d8_21 (by decide) (teq hc18).1 <| oJ 29 17 #[rr tu3, rr pa1, ii 17] X0 d8_26 rfl rfl (by decide) rfl <| og 9 X0 d8_29 (by decide) <| oI 10 X0 d8_9 rfl rfl <| oA 11 X0 d8_10 rfl rfl <| oL 12 X0 f1 d8_11 rfl <| oN 15 X0 d8_12 rfl (tlt (by decide)).2.1 <| oA 16 X0 d8_15 rfl rfl <| oI 17 X0 d8_16 rfl rfl <| oB 18 (v := (.int 97)) X0 f1 ⟨by decide, by decide⟩ rfl d8_17 rfl <| oA 19 X0 d8_18 rfl rfl <| oI 20 X0 d8_19 rfl rfl ?_
                                    refine oB 21 (v := (.int pi18)) X0 F0 ⟨by decide, by decide⟩ rfl d8_20 rfl ?_
                                    by_cases hc19 : (97 : Int32) = pi18
                                    · refine oY 26 X0 d8_21 (by decide) (teq hc19).1 <| oJ 29 18 #[rr tu3, rr pa1, ii 18] X0 d8_26 rfl rfl (by decide) rfl <| og 9 X0 d8_29 (by decide) <| oI 10 X0 d8_9 rfl rfl <| oA 11 X0 d8_10 rfl rfl <| oL 12 X0 f1 d8_11 rfl <| oN 15 X0 d8_12 rfl (tlt (by decide)).2.1 <| oA 16 X0 d8_15 rfl rfl <| oI 17 X0 d8_16 rfl rfl <| oB 18 (v := (.int 116)) X0 f1 ⟨by decide, by decide⟩ rfl d8_17 rfl <| oA 19 X0 d8_18 rfl rfl <| oI 20 X0 d8_19 rfl rfl ?_
                                      refine oB 21 (v := (.int pi19)) X0 F0 ⟨by decide, by decide⟩ rfl d8_20 rfl ?_
                                      by_cases hc20 : (116 : Int32) = pi19
                                      · refine oY 26 X0 d8_21 (by decide) (teq hc20).1 <| oJ 29 19 #[rr tu3, rr pa1, ii 19] X0 d8_26 rfl rfl (by decide) rfl <| og 9 X0 d8_29 (by decide) <| oI 10 X0 d8_9 rfl rfl <| oA 11 X0 d8_10 rfl rfl <| oL 12 X0 f1 d8_11 rfl <| oN 15 X0 d8_12 rfl (tlt (by decide)).2.1 <| oA 16 X0 d8_15 rfl rfl <| oI 17 X0 d8_16 rfl rfl <| oB 18 (v := (.int 101)) X0 f1 ⟨by decide, by decide⟩ rfl d8_17 rfl <| oA 19 X0 d8_18 rfl rfl <| oI 20 X0 d8_19 rfl rfl ?_
                                        refine oB 21 (v := (.int pi20)) X0 F0 ⟨by decide, by decide⟩ rfl d8_20 rfl ?_
                                        by_cases hc21 : (101 : Int32) = pi20
                                        · refine oY 26 X0 d8_21 (by decide) (teq hc21).1 <| oJ 29 20 #[rr tu3, rr pa1, ii 20] X0 d8_26 rfl rfl (by decide) rfl <| og 9 X0 d8_29 (by decide) <| oI 10 X0 d8_9 rfl rfl <| oA 11 X0 d8_10 rfl rfl <| oL 12 X0 f1 d8_11 rfl <| oN 15 X0 d8_12 rfl (tlt (by decide)).2.1 <| oA 16 X0 d8_15 rfl rfl <| oI 17 X0 d8_16 rfl rfl <| oB 18 (v := (.int 115)) X0 f1 ⟨by decide, by decide⟩ rfl d8_17 rfl <| oA 19 X0 d8_18 rfl rfl <| oI 20 X0 d8_19 rfl rfl ?_
                                          refine oB 21 (v := (.int pi21)) X0 F0 ⟨by decide, by decide⟩ rfl d8_20 rfl ?_
                                          by_cases hc22 : (115 : Int32) = pi21
                                          · refine oY 26 X0 d8_21 (by decide) (teq hc22).1 <| oJ 29 21 #[rr tu3, rr pa1, ii 21] X0 d8_26 rfl rfl (by decide) rfl <| og 9 X0 d8_29 (by decide) <| oI 10 X0 d8_9 rfl rfl <| oA 11 X0 d8_10 rfl rfl <| oL 12 X0 f1 d8_11 rfl <| oY 32 X0 d8_12 (by decide) (flt (by decide)).2.1 <| oc 33 (v := 1) X0 d8_32 rfl (by decide) ?_
                                            exact o_nret (y := (1 : Int32)) (t := .boolean) X0 d8_33 rfl (by decide) (by simp) (by decide) (by decide) (fun _ CC => (own_eqP (by rw [← hc2, ← hc3, ← hc4, ← hc5, ← hc6, ← hc7, ← hc8, ← hc9, ← hc10, ← hc11, ← hc12, ← hc13, ← hc14, ← hc15, ← hc16, ← hc17, ← hc18, ← hc19, ← hc20, ← hc21, ← hc22])))
                                          · refine oN 24 X0 d8_21 rfl (feq hc22).1 <| oc 25 (v := 0) X0 d8_24 rfl (by decide) ?_
                                            exact o_nret (y := (0 : Int32)) (t := .boolean) X0 d8_25 rfl (by decide) (by simp) (by decide) (by decide) (fun _ CC => (own_eqN (fun q => hc22 (List.cons.inj (List.cons.inj (List.cons.inj (List.cons.inj (List.cons.inj (List.cons.inj (List.cons.inj (List.cons.inj (List.cons.inj (List.cons.inj (List.cons.inj (List.cons.inj (List.cons.inj (List.cons.inj (List.cons.inj (List.cons.inj (List.cons.inj (List.cons.inj (List.cons.inj (List.cons.inj (List.cons.inj q).2).2).2).2).2).2).2).2).2).2).2).2).2).2).2).2).2).2).2).2).1.symm)))
                                        · refine oN 24 X0 d8_21 rfl (feq hc21).1 <| oc 25 (v := 0) X0 d8_24 rfl (by decide) ?_
                                          exact o_nret (y := (0 : Int32)) (t := .boolean) X0 d8_25 rfl (by decide) (by simp) (by decide) (by decide) (fun _ CC => (own_eqN (fun q => hc21 (List.cons.inj (List.cons.inj (List.cons.inj (List.cons.inj (List.cons.inj (List.cons.inj (List.cons.inj (List.cons.inj (List.cons.inj (List.cons.inj (List.cons.inj (List.cons.inj (List.cons.inj (List.cons.inj (List.cons.inj (List.cons.inj (List.cons.inj (List.cons.inj (List.cons.inj (List.cons.inj q).2).2).2).2).2).2).2).2).2).2).2).2).2).2).2).2).2).2).2).1.symm)))
                                      · refine oN 24 X0 d8_21 rfl (feq hc20).1 <| oc 25 (v := 0) X0 d8_24 rfl (by decide) ?_
                                        exact o_nret (y := (0 : Int32)) (t := .boolean) X0 d8_25 rfl (by decide) (by simp) (by decide) (by decide) (fun _ CC => (own_eqN (fun q => hc20 (List.cons.inj (List.cons.inj (List.cons.inj (List.cons.inj (List.cons.inj (List.cons.inj (List.cons.inj (List.cons.inj (List.cons.inj (List.cons.inj (List.cons.inj (List.cons.inj (List.cons.inj (List.cons.inj (List.cons.inj (List.cons.inj (List.cons.inj (List.cons.inj (List.cons.inj q).2).2).2).2).2).2).2).2).2).2).2).2).2).2).2).2).2).2).1.symm)))
                                    · refine oN 24 X0 d8_21 rfl (feq hc19).1 <| oc 25 (v := 0) X0 d8_24 rfl (by decide) ?_
                                      exact o_nret (y := (0 : Int32)) (t := .boolean) X0 d8_25 rfl (by decide) (by simp) (by decide) (by decide) (fun _ CC => (own_eqN (fun q => hc19 (List.cons.inj (List.cons.inj (List.cons.inj (List.cons.inj (List.cons.inj (List.cons.inj (List.cons.inj (List.cons.inj (List.cons.inj (List.cons.inj (List.cons.inj (List.cons.inj (List.cons.inj (List.cons.inj (List.cons.inj (List.cons.inj (List.cons.inj (List.cons.inj q).2).2).2).2).2).2).2).2).2).2).2).2).2).2).2).2).2).1.symm)))
                                  · refine oN 24 X0 d8_21 rfl (feq hc18).1 <| oc 25 (v := 0) X0 d8_24 rfl (by decide) ?_
                                    exact o_nret (y := (0 : Int32)) (t := .boolean) X0 d8_25 rfl (by decide) (by simp) (by decide) (by decide) (fun _ CC => (own_eqN (fun q => hc18 (List.cons.inj (List.cons.inj (List.cons.inj (List.cons.inj (List.cons.inj (List.cons.inj (List.cons.inj (List.cons.inj (List.cons.inj (List.cons.inj (List.cons.inj (List.cons.inj (List.cons.inj (List.cons.inj (List.cons.inj (List.cons.inj (List.cons.inj q).2).2).2).2).2).2).2).2).2).2).2).2).2).2).2).2).1.symm)))
                                · refine oN 24 X0 d8_21 rfl (feq hc17).1 <| oc 25 (v := 0) X0 d8_24 rfl (by decide) ?_
                                  exact o_nret (y := (0 : Int32)) (t := .boolean) X0 d8_25 rfl (by decide) (by simp) (by decide) (by decide) (fun _ CC => (own_eqN (fun q => hc17 (List.cons.inj (List.cons.inj (List.cons.inj (List.cons.inj (List.cons.inj (List.cons.inj (List.cons.inj (List.cons.inj (List.cons.inj (List.cons.inj (List.cons.inj (List.cons.inj (List.cons.inj (List.cons.inj (List.cons.inj (List.cons.inj q).2).2).2).2).2).2).2).2).2).2).2).2).2).2).2).1.symm)))
                              · refine oN 24 X0 d8_21 rfl (feq hc16).1 <| oc 25 (v := 0) X0 d8_24 rfl (by decide) ?_
                                exact o_nret (y := (0 : Int32)) (t := .boolean) X0 d8_25 rfl (by decide) (by simp) (by decide) (by decide) (fun _ CC => (own_eqN (fun q => hc16 (List.cons.inj (List.cons.inj (List.cons.inj (List.cons.inj (List.cons.inj (List.cons.inj (List.cons.inj (List.cons.inj (List.cons.inj (List.cons.inj (List.cons.inj (List.cons.inj (List.cons.inj (List.cons.inj (List.cons.inj q).2).2).2).2).2).2).2).2).2).2).2).2).2).2).1.symm)))
                            · refine oN 24 X0 d8_21 rfl (feq hc15).1 <| oc 25 (v := 0) X0 d8_24 rfl (by decide) ?_
                              exact o_nret (y := (0 : Int32)) (t := .boolean) X0 d8_25 rfl (by decide) (by simp) (by decide) (by decide) (fun _ CC => (own_eqN (fun q => hc15 (List.cons.inj (List.cons.inj (List.cons.inj (List.cons.inj (List.cons.inj (List.cons.inj (List.cons.inj (List.cons.inj (List.cons.inj (List.cons.inj (List.cons.inj (List.cons.inj (List.cons.inj (List.cons.inj q).2).2).2).2).2).2).2).2).2).2).2).2).2).1.symm)))
                          · refine oN 24 X0 d8_21 rfl (feq hc14).1 <| oc 25 (v := 0) X0 d8_24 rfl (by decide) ?_
                            exact o_nret (y := (0 : Int32)) (t := .boolean) X0 d8_25 rfl (by decide) (by simp) (by decide) (by decide) (fun _ CC => (own_eqN (fun q => hc14 (List.cons.inj (List.cons.inj (List.cons.inj (List.cons.inj (List.cons.inj (List.cons.inj (List.cons.inj (List.cons.inj (List.cons.inj (List.cons.inj (List.cons.inj (List.cons.inj (List.cons.inj q).2).2).2).2).2).2).2).2).2).2).2).2).1.symm)))
                        · refine oN 24 X0 d8_21 rfl (feq hc13).1 <| oc 25 (v := 0) X0 d8_24 rfl (by decide) ?_
                          exact o_nret (y := (0 : Int32)) (t := .boolean) X0 d8_25 rfl (by decide) (by simp) (by decide) (by decide) (fun _ CC => (own_eqN (fun q => hc13 (List.cons.inj (List.cons.inj (List.cons.inj (List.cons.inj (List.cons.inj (List.cons.inj (List.cons.inj (List.cons.inj (List.cons.inj (List.cons.inj (List.cons.inj (List.cons.inj q).2).2).2).2).2).2).2).2).2).2).2).1.symm)))
                      · refine oN 24 X0 d8_21 rfl (feq hc12).1 <| oc 25 (v := 0) X0 d8_24 rfl (by decide) ?_
                        exact o_nret (y := (0 : Int32)) (t := .boolean) X0 d8_25 rfl (by decide) (by simp) (by decide) (by decide) (fun _ CC => (own_eqN (fun q => hc12 (List.cons.inj (List.cons.inj (List.cons.inj (List.cons.inj (List.cons.inj (List.cons.inj (List.cons.inj (List.cons.inj (List.cons.inj (List.cons.inj (List.cons.inj q).2).2).2).2).2).2).2).2).2).2).1.symm)))
                    · refine oN 24 X0 d8_21 rfl (feq hc11).1 <| oc 25 (v := 0) X0 d8_24 rfl (by decide) ?_
                      exact o_nret (y := (0 : Int32)) (t := .boolean) X0 d8_25 rfl (by decide) (by simp) (by decide) (by decide) (fun _ CC => (own_eqN (fun q => hc11 (List.cons.inj (List.cons.inj (List.cons.inj (List.cons.inj (List.cons.inj (List.cons.inj (List.cons.inj (List.cons.inj (List.cons.inj (List.cons.inj q).2).2).2).2).2).2).2).2).2).1.symm)))
                  · refine oN 24 X0 d8_21 rfl (feq hc10).1 <| oc 25 (v := 0) X0 d8_24 rfl (by decide) ?_
                    exact o_nret (y := (0 : Int32)) (t := .boolean) X0 d8_25 rfl (by decide) (by simp) (by decide) (by decide) (fun _ CC => (own_eqN (fun q => hc10 (List.cons.inj (List.cons.inj (List.cons.inj (List.cons.inj (List.cons.inj (List.cons.inj (List.cons.inj (List.cons.inj (List.cons.inj q).2).2).2).2).2).2).2).2).1.symm)))
                · refine oN 24 X0 d8_21 rfl (feq hc9).1 <| oc 25 (v := 0) X0 d8_24 rfl (by decide) ?_
                  exact o_nret (y := (0 : Int32)) (t := .boolean) X0 d8_25 rfl (by decide) (by simp) (by decide) (by decide) (fun _ CC => (own_eqN (fun q => hc9 (List.cons.inj (List.cons.inj (List.cons.inj (List.cons.inj (List.cons.inj (List.cons.inj (List.cons.inj (List.cons.inj q).2).2).2).2).2).2).2).1.symm)))
              · refine oN 24 X0 d8_21 rfl (feq hc8).1 <| oc 25 (v := 0) X0 d8_24 rfl (by decide) ?_
                exact o_nret (y := (0 : Int32)) (t := .boolean) X0 d8_25 rfl (by decide) (by simp) (by decide) (by decide) (fun _ CC => (own_eqN (fun q => hc8 (List.cons.inj (List.cons.inj (List.cons.inj (List.cons.inj (List.cons.inj (List.cons.inj (List.cons.inj q).2).2).2).2).2).2).1.symm)))
            · refine oN 24 X0 d8_21 rfl (feq hc7).1 <| oc 25 (v := 0) X0 d8_24 rfl (by decide) ?_
              exact o_nret (y := (0 : Int32)) (t := .boolean) X0 d8_25 rfl (by decide) (by simp) (by decide) (by decide) (fun _ CC => (own_eqN (fun q => hc7 (List.cons.inj (List.cons.inj (List.cons.inj (List.cons.inj (List.cons.inj (List.cons.inj q).2).2).2).2).2).1.symm)))
          · refine oN 24 X0 d8_21 rfl (feq hc6).1 <| oc 25 (v := 0) X0 d8_24 rfl (by decide) ?_
            exact o_nret (y := (0 : Int32)) (t := .boolean) X0 d8_25 rfl (by decide) (by simp) (by decide) (by decide) (fun _ CC => (own_eqN (fun q => hc6 (List.cons.inj (List.cons.inj (List.cons.inj (List.cons.inj (List.cons.inj q).2).2).2).2).1.symm)))
        · refine oN 24 X0 d8_21 rfl (feq hc5).1 <| oc 25 (v := 0) X0 d8_24 rfl (by decide) ?_
          exact o_nret (y := (0 : Int32)) (t := .boolean) X0 d8_25 rfl (by decide) (by simp) (by decide) (by decide) (fun _ CC => (own_eqN (fun q => hc5 (List.cons.inj (List.cons.inj (List.cons.inj (List.cons.inj q).2).2).2).1.symm)))
      · refine oN 24 X0 d8_21 rfl (feq hc4).1 <| oc 25 (v := 0) X0 d8_24 rfl (by decide) ?_
        exact o_nret (y := (0 : Int32)) (t := .boolean) X0 d8_25 rfl (by decide) (by simp) (by decide) (by decide) (fun _ CC => (own_eqN (fun q => hc4 (List.cons.inj (List.cons.inj (List.cons.inj q).2).2).1.symm)))
    · refine oN 24 X0 d8_21 rfl (feq hc3).1 <| oc 25 (v := 0) X0 d8_24 rfl (by decide) ?_
      exact o_nret (y := (0 : Int32)) (t := .boolean) X0 d8_25 rfl (by decide) (by simp) (by decide) (by decide) (fun _ CC => (own_eqN (fun q => hc3 (List.cons.inj (List.cons.inj q).2).1.symm)))
  · refine oN 24 X0 d8_21 rfl (feq hc2).1 <| oc 25 (v := 0) X0 d8_24 rfl (by decide) ?_
    exact o_nret (y := (0 : Int32)) (t := .boolean) X0 d8_25 rfl (by decide) (by simp) (by decide) (by decide) (fun _ CC => (own_eqN (fun q => hc2 (List.cons.inj q).1.symm)))
def Q11 (Z : State) (b1 b2 b3 b4 b5 : Int32) (h0 : Heap) (v : Option Value) (h : Heap) (vm : Vm) : Prop := v = some (.int (oEq [b1, b2, b3, b4, b5] [103, 114, 111, 117, 112]))
theorem rm_eqA_g (F0 : av0 Z h0 pa1 pk1 5 [.int pi1, .int pi2, .int pi3, .int pi4, .int pi5]) (F1 : av0 Z h0 pa2 pk2 5 [.int 103, .int 114, .int 111, .int 117, .int 112]) : M8 G 0 0 0 0 #[.ref pa1, .ref pa2] h0 n0 [] [] (Q11 Z pi1 pi2 pi3 pi4 pi5 h0) := by
  refine mi B8 ef5 (hEW G) fun s X0 hsf0 n0le => ?_
  have := F0.l
  have := F1.l
  refine oA 1 X0 d8_0 rfl rfl <| oL 2 X0 F0 d8_1 rfl <| oA 3 X0 d8_2 rfl rfl <| oL 4 X0 F1 d8_3 rfl <| oN 7 X0 d8_4 rfl (teq (by decide)).2 <| oc 8 (v := 0) X0 d8_7 rfl (by decide) <| oT 9 (l' := #[rr pa1, rr pa2, ii 0]) X0 d8_8 rfl rfl <| oI 10 X0 d8_9 rfl rfl <| oA 11 X0 d8_10 rfl rfl <| oL 12 X0 F0 d8_11 rfl <| oN 15 X0 d8_12 rfl (tlt (by decide)).2.1 <| oA 16 X0 d8_15 rfl rfl ?_
  refine oI 17 X0 d8_16 rfl rfl <| oB 18 (v := (.int pi1)) X0 F0 ⟨by decide, by decide⟩ rfl d8_17 rfl <| oA 19 X0 d8_18 rfl rfl <| oI 20 X0 d8_19 rfl rfl <| oB 21 (v := (.int 103)) X0 F1 ⟨by decide, by decide⟩ rfl d8_20 rfl ?_
  by_cases hc1 : pi1 = (103 : Int32)
  · refine oY 26 X0 d8_21 (by decide) (teq hc1).1 <| oJ 29 1 #[rr pa1, rr pa2, ii 1] X0 d8_26 rfl rfl (by decide) rfl <| og 9 X0 d8_29 (by decide) <| oI 10 X0 d8_9 rfl rfl <| oA 11 X0 d8_10 rfl rfl <| oL 12 X0 F0 d8_11 rfl <| oN 15 X0 d8_12 rfl (tlt (by decide)).2.1 <| oA 16 X0 d8_15 rfl rfl <| oI 17 X0 d8_16 rfl rfl <| oB 18 (v := (.int pi2)) X0 F0 ⟨by decide, by decide⟩ rfl d8_17 rfl <| oA 19 X0 d8_18 rfl rfl <| oI 20 X0 d8_19 rfl rfl ?_
    refine oB 21 (v := (.int 114)) X0 F1 ⟨by decide, by decide⟩ rfl d8_20 rfl ?_
    by_cases hc2 : pi2 = (114 : Int32)
    · refine oY 26 X0 d8_21 (by decide) (teq hc2).1 <| oJ 29 2 #[rr pa1, rr pa2, ii 2] X0 d8_26 rfl rfl (by decide) rfl <| og 9 X0 d8_29 (by decide) <| oI 10 X0 d8_9 rfl rfl <| oA 11 X0 d8_10 rfl rfl <| oL 12 X0 F0 d8_11 rfl <| oN 15 X0 d8_12 rfl (tlt (by decide)).2.1 <| oA 16 X0 d8_15 rfl rfl <| oI 17 X0 d8_16 rfl rfl <| oB 18 (v := (.int pi3)) X0 F0 ⟨by decide, by decide⟩ rfl d8_17 rfl <| oA 19 X0 d8_18 rfl rfl <| oI 20 X0 d8_19 rfl rfl ?_
      refine oB 21 (v := (.int 111)) X0 F1 ⟨by decide, by decide⟩ rfl d8_20 rfl ?_
      by_cases hc3 : pi3 = (111 : Int32)
      · refine oY 26 X0 d8_21 (by decide) (teq hc3).1 <| oJ 29 3 #[rr pa1, rr pa2, ii 3] X0 d8_26 rfl rfl (by decide) rfl <| og 9 X0 d8_29 (by decide) <| oI 10 X0 d8_9 rfl rfl <| oA 11 X0 d8_10 rfl rfl <| oL 12 X0 F0 d8_11 rfl <| oN 15 X0 d8_12 rfl (tlt (by decide)).2.1 <| oA 16 X0 d8_15 rfl rfl <| oI 17 X0 d8_16 rfl rfl <| oB 18 (v := (.int pi4)) X0 F0 ⟨by decide, by decide⟩ rfl d8_17 rfl <| oA 19 X0 d8_18 rfl rfl <| oI 20 X0 d8_19 rfl rfl ?_
        refine oB 21 (v := (.int 117)) X0 F1 ⟨by decide, by decide⟩ rfl d8_20 rfl ?_
        by_cases hc4 : pi4 = (117 : Int32)
        · refine oY 26 X0 d8_21 (by decide) (teq hc4).1 <| oJ 29 4 #[rr pa1, rr pa2, ii 4] X0 d8_26 rfl rfl (by decide) rfl <| og 9 X0 d8_29 (by decide) <| oI 10 X0 d8_9 rfl rfl <| oA 11 X0 d8_10 rfl rfl <| oL 12 X0 F0 d8_11 rfl <| oN 15 X0 d8_12 rfl (tlt (by decide)).2.1 <| oA 16 X0 d8_15 rfl rfl <| oI 17 X0 d8_16 rfl rfl <| oB 18 (v := (.int pi5)) X0 F0 ⟨by decide, by decide⟩ rfl d8_17 rfl <| oA 19 X0 d8_18 rfl rfl <| oI 20 X0 d8_19 rfl rfl ?_
          refine oB 21 (v := (.int 112)) X0 F1 ⟨by decide, by decide⟩ rfl d8_20 rfl ?_
          by_cases hc5 : pi5 = (112 : Int32)
          · refine oY 26 X0 d8_21 (by decide) (teq hc5).1 <| oJ 29 5 #[rr pa1, rr pa2, ii 5] X0 d8_26 rfl rfl (by decide) rfl <| og 9 X0 d8_29 (by decide) <| oI 10 X0 d8_9 rfl rfl <| oA 11 X0 d8_10 rfl rfl <| oL 12 X0 F0 d8_11 rfl <| oY 32 X0 d8_12 (by decide) (flt (by decide)).2.1 <| oc 33 (v := 1) X0 d8_32 rfl (by decide) ?_
            exact o_nret (y := (1 : Int32)) (t := .boolean) X0 d8_33 rfl (by decide) (by simp) (by decide) (by decide) (fun _ CC => (own_eqP (by rw [hc1, hc2, hc3, hc4, hc5])))
          · refine oN 24 X0 d8_21 rfl (feq hc5).1 <| oc 25 (v := 0) X0 d8_24 rfl (by decide) ?_
            exact o_nret (y := (0 : Int32)) (t := .boolean) X0 d8_25 rfl (by decide) (by simp) (by decide) (by decide) (fun _ CC => (own_eqN (fun q => hc5 (List.cons.inj (List.cons.inj (List.cons.inj (List.cons.inj (List.cons.inj q).2).2).2).2).1)))
        · refine oN 24 X0 d8_21 rfl (feq hc4).1 <| oc 25 (v := 0) X0 d8_24 rfl (by decide) ?_
          exact o_nret (y := (0 : Int32)) (t := .boolean) X0 d8_25 rfl (by decide) (by simp) (by decide) (by decide) (fun _ CC => (own_eqN (fun q => hc4 (List.cons.inj (List.cons.inj (List.cons.inj (List.cons.inj q).2).2).2).1)))
      · refine oN 24 X0 d8_21 rfl (feq hc3).1 <| oc 25 (v := 0) X0 d8_24 rfl (by decide) ?_
        exact o_nret (y := (0 : Int32)) (t := .boolean) X0 d8_25 rfl (by decide) (by simp) (by decide) (by decide) (fun _ CC => (own_eqN (fun q => hc3 (List.cons.inj (List.cons.inj (List.cons.inj q).2).2).1)))
    · refine oN 24 X0 d8_21 rfl (feq hc2).1 <| oc 25 (v := 0) X0 d8_24 rfl (by decide) ?_
      exact o_nret (y := (0 : Int32)) (t := .boolean) X0 d8_25 rfl (by decide) (by simp) (by decide) (by decide) (fun _ CC => (own_eqN (fun q => hc2 (List.cons.inj (List.cons.inj q).2).1)))
  · refine oN 24 X0 d8_21 rfl (feq hc1).1 <| oc 25 (v := 0) X0 d8_24 rfl (by decide) ?_
    exact o_nret (y := (0 : Int32)) (t := .boolean) X0 d8_25 rfl (by decide) (by simp) (by decide) (by decide) (fun _ CC => (own_eqN (fun q => hc1 (List.cons.inj q).1)))
theorem rm_eqB_g (F0 : av0 Z h0 pa1 pk1 5 [.int pi1, .int pi2, .int pi3, .int pi4, .int pi5]) : M8 G 0 0 0 0 #[.ref tu4, .ref pa1] h0 n0 [] [] (Q11 Z pi1 pi2 pi3 pi4 pi5 h0) := by
  refine mi B8 ef5 (hEW G) fun s X0 hsf0 n0le => ?_
  have := F0.l
  refine oA 1 X0 d8_0 rfl rfl ?_
  have f1 := (sg3 G).ext X0.old.2
  refine oL 2 X0 f1 d8_1 rfl <| oA 3 X0 d8_2 rfl rfl <| oL 4 X0 F0 d8_3 rfl <| oN 7 X0 d8_4 rfl (teq (by decide)).2 <| oc 8 (v := 0) X0 d8_7 rfl (by decide) <| oT 9 (l' := #[rr tu4, rr pa1, ii 0]) X0 d8_8 rfl rfl <| oI 10 X0 d8_9 rfl rfl <| oA 11 X0 d8_10 rfl rfl <| oL 12 X0 f1 d8_11 rfl <| oN 15 X0 d8_12 rfl (tlt (by decide)).2.1 <| oA 16 X0 d8_15 rfl rfl <| oI 17 X0 d8_16 rfl rfl ?_
  refine oB 18 (v := (.int 103)) X0 f1 ⟨by decide, by decide⟩ rfl d8_17 rfl <| oA 19 X0 d8_18 rfl rfl <| oI 20 X0 d8_19 rfl rfl <| oB 21 (v := (.int pi1)) X0 F0 ⟨by decide, by decide⟩ rfl d8_20 rfl ?_
  by_cases hc2 : (103 : Int32) = pi1
  · refine oY 26 X0 d8_21 (by decide) (teq hc2).1 <| oJ 29 1 #[rr tu4, rr pa1, ii 1] X0 d8_26 rfl rfl (by decide) rfl <| og 9 X0 d8_29 (by decide) <| oI 10 X0 d8_9 rfl rfl <| oA 11 X0 d8_10 rfl rfl <| oL 12 X0 f1 d8_11 rfl <| oN 15 X0 d8_12 rfl (tlt (by decide)).2.1 <| oA 16 X0 d8_15 rfl rfl <| oI 17 X0 d8_16 rfl rfl <| oB 18 (v := (.int 114)) X0 f1 ⟨by decide, by decide⟩ rfl d8_17 rfl <| oA 19 X0 d8_18 rfl rfl <| oI 20 X0 d8_19 rfl rfl ?_
    refine oB 21 (v := (.int pi2)) X0 F0 ⟨by decide, by decide⟩ rfl d8_20 rfl ?_
    by_cases hc3 : (114 : Int32) = pi2
    · refine oY 26 X0 d8_21 (by decide) (teq hc3).1 <| oJ 29 2 #[rr tu4, rr pa1, ii 2] X0 d8_26 rfl rfl (by decide) rfl <| og 9 X0 d8_29 (by decide) <| oI 10 X0 d8_9 rfl rfl <| oA 11 X0 d8_10 rfl rfl <| oL 12 X0 f1 d8_11 rfl <| oN 15 X0 d8_12 rfl (tlt (by decide)).2.1 <| oA 16 X0 d8_15 rfl rfl <| oI 17 X0 d8_16 rfl rfl <| oB 18 (v := (.int 111)) X0 f1 ⟨by decide, by decide⟩ rfl d8_17 rfl <| oA 19 X0 d8_18 rfl rfl <| oI 20 X0 d8_19 rfl rfl ?_
      refine oB 21 (v := (.int pi3)) X0 F0 ⟨by decide, by decide⟩ rfl d8_20 rfl ?_
      by_cases hc4 : (111 : Int32) = pi3
      · refine oY 26 X0 d8_21 (by decide) (teq hc4).1 <| oJ 29 3 #[rr tu4, rr pa1, ii 3] X0 d8_26 rfl rfl (by decide) rfl <| og 9 X0 d8_29 (by decide) <| oI 10 X0 d8_9 rfl rfl <| oA 11 X0 d8_10 rfl rfl <| oL 12 X0 f1 d8_11 rfl <| oN 15 X0 d8_12 rfl (tlt (by decide)).2.1 <| oA 16 X0 d8_15 rfl rfl <| oI 17 X0 d8_16 rfl rfl <| oB 18 (v := (.int 117)) X0 f1 ⟨by decide, by decide⟩ rfl d8_17 rfl <| oA 19 X0 d8_18 rfl rfl <| oI 20 X0 d8_19 rfl rfl ?_
        refine oB 21 (v := (.int pi4)) X0 F0 ⟨by decide, by decide⟩ rfl d8_20 rfl ?_
        by_cases hc5 : (117 : Int32) = pi4
        · refine oY 26 X0 d8_21 (by decide) (teq hc5).1 <| oJ 29 4 #[rr tu4, rr pa1, ii 4] X0 d8_26 rfl rfl (by decide) rfl <| og 9 X0 d8_29 (by decide) <| oI 10 X0 d8_9 rfl rfl <| oA 11 X0 d8_10 rfl rfl <| oL 12 X0 f1 d8_11 rfl <| oN 15 X0 d8_12 rfl (tlt (by decide)).2.1 <| oA 16 X0 d8_15 rfl rfl <| oI 17 X0 d8_16 rfl rfl <| oB 18 (v := (.int 112)) X0 f1 ⟨by decide, by decide⟩ rfl d8_17 rfl <| oA 19 X0 d8_18 rfl rfl <| oI 20 X0 d8_19 rfl rfl ?_
          refine oB 21 (v := (.int pi5)) X0 F0 ⟨by decide, by decide⟩ rfl d8_20 rfl ?_
          by_cases hc6 : (112 : Int32) = pi5
          · refine oY 26 X0 d8_21 (by decide) (teq hc6).1 <| oJ 29 5 #[rr tu4, rr pa1, ii 5] X0 d8_26 rfl rfl (by decide) rfl <| og 9 X0 d8_29 (by decide) <| oI 10 X0 d8_9 rfl rfl <| oA 11 X0 d8_10 rfl rfl <| oL 12 X0 f1 d8_11 rfl <| oY 32 X0 d8_12 (by decide) (flt (by decide)).2.1 <| oc 33 (v := 1) X0 d8_32 rfl (by decide) ?_
            exact o_nret (y := (1 : Int32)) (t := .boolean) X0 d8_33 rfl (by decide) (by simp) (by decide) (by decide) (fun _ CC => (own_eqP (by rw [← hc2, ← hc3, ← hc4, ← hc5, ← hc6])))
          · refine oN 24 X0 d8_21 rfl (feq hc6).1 <| oc 25 (v := 0) X0 d8_24 rfl (by decide) ?_
            exact o_nret (y := (0 : Int32)) (t := .boolean) X0 d8_25 rfl (by decide) (by simp) (by decide) (by decide) (fun _ CC => (own_eqN (fun q => hc6 (List.cons.inj (List.cons.inj (List.cons.inj (List.cons.inj (List.cons.inj q).2).2).2).2).1.symm)))
        · refine oN 24 X0 d8_21 rfl (feq hc5).1 <| oc 25 (v := 0) X0 d8_24 rfl (by decide) ?_
          exact o_nret (y := (0 : Int32)) (t := .boolean) X0 d8_25 rfl (by decide) (by simp) (by decide) (by decide) (fun _ CC => (own_eqN (fun q => hc5 (List.cons.inj (List.cons.inj (List.cons.inj (List.cons.inj q).2).2).2).1.symm)))
      · refine oN 24 X0 d8_21 rfl (feq hc4).1 <| oc 25 (v := 0) X0 d8_24 rfl (by decide) ?_
        exact o_nret (y := (0 : Int32)) (t := .boolean) X0 d8_25 rfl (by decide) (by simp) (by decide) (by decide) (fun _ CC => (own_eqN (fun q => hc4 (List.cons.inj (List.cons.inj (List.cons.inj q).2).2).1.symm)))
    · refine oN 24 X0 d8_21 rfl (feq hc3).1 <| oc 25 (v := 0) X0 d8_24 rfl (by decide) ?_
      exact o_nret (y := (0 : Int32)) (t := .boolean) X0 d8_25 rfl (by decide) (by simp) (by decide) (by decide) (fun _ CC => (own_eqN (fun q => hc3 (List.cons.inj (List.cons.inj q).2).1.symm)))
  · refine oN 24 X0 d8_21 rfl (feq hc2).1 <| oc 25 (v := 0) X0 d8_24 rfl (by decide) ?_
    exact o_nret (y := (0 : Int32)) (t := .boolean) X0 d8_25 rfl (by decide) (by simp) (by decide) (by decide) (fun _ CC => (own_eqN (fun q => hc2 (List.cons.inj q).1.symm)))
def Q12 (Z : State) (h0 : Heap) (v : Option Value) (h : Heap) (vm : Vm) : Prop := ∃ (xa1 : Addr) (xa2 : Addr) (xk1 : ClassId), v = some (.ref xa1) ∧ ex0 Z h xa1 ∧ fd0 Z h xa1 (.int 0) ∧ fd1 Z h xa1 (.ref xa2) ∧ av0 Z h xa2 xk1 0 [] ∧ h.size > xa1 ∧ h.size > xa2
theorem rm_au11 (F0 : ex1 Z h0 pa1) (pc_0 : pi100 = (0 : Int32)) : M10 G 0 2 4 0 #[.ref pa1, .int pi100] h0 n0 [] [] (Q12 Z  h0) := by
  have hw := G.1
  refine mi B10 ef0 (hEW G) fun s X0 hsf0 n0le => ?_
  have := F0.l
  refine oI 1 X0 d10_0 rfl rfl <| on 4 X0 d10_1 rfl ((if0 _ _).trans (teq pc_0).2) <| o_ldcC 6 (n := 0) (vs := own_bs ([] : List Int32)) (z := (0 : Int32)) X0 (w143 G) (hws_str hw) (by decide) ⟨by decide, rfl⟩ (by decide) (by decide) d10_4 rfl (by decide) (by decide) (by decide) (by decide) ?_
  intro a1 b1 kb1 _ h1 _ X1 E1 _ Es1 Cs1 Vs1 As1 SF1
  have lta1 : h1.size > a1 := Es1.lt
  have ltb1 : h1.size > b1 := As1.lt
  have := E1.1
  have Bs1 : av0 Z h1 b1 kb1 0 [] := As1
  have f3 := F0.ext E1
  have := own_nes (SF1 pa1 (sx X1 f3 nc0))
  exact oR X1 d10_6 rfl rfl rfl (by decide) (by decide) (fun _ CC => ⟨a1, b1, kb1, rfl, Es1, Cs1, Vs1, Bs1, by omega⟩)
theorem rm_au12 (F0 : av0 Z h0 pa1 pk1 pi1 ps1) (F1 : av0 Z h0 pa2 pk2 pi2 ps2) (pc_0 : ¬ pi1 = pi2) : M8 G 0 0 0 0 #[.ref pa1, .ref pa2] h0 n0 [] [] (Q4 Z  h0) := by
  refine mi B8 ef5 (hEW G) fun s X0 hsf0 n0le => ?_
  have := F0.l
  have := F1.l
  refine oA 1 X0 d8_0 rfl rfl <| oL 2 X0 F0 d8_1 rfl <| oA 3 X0 d8_2 rfl rfl <| oL 4 X0 F1 d8_3 rfl <| oY 34 X0 d8_4 (by decide) (feq pc_0).2 <| oc 35 (v := 0) X0 d8_34 rfl (by decide) ?_
  exact o_nret (y := (0 : Int32)) (t := .boolean) X0 d8_35 rfl (by decide) (by simp) (by decide) (by decide) (fun _ CC => rfl)
theorem rm_au13 (F0 : fd0 Z h0 pa1 (.int pi1)) (F1 : fd1 Z h0 pa1 (.ref pa3)) (F2 : ex0 Z h0 pa2) (F3 : fd0 Z h0 pa2 (.int pi101)) (F4 : fd1 Z h0 pa2 (.ref pa4)) (F5 : av0 Z h0 pa3 pk1 pi102 ps_pa3) (F6 : av0 Z h0 pa4 pk2 pi103 ps_pa4) (pc_0 : pi1 = pi101) (pc_1 : ¬ pi102 = pi103) (ne : NE pa1 pa2) : M12 G 1 0 0 14 #[.ref pa1, .ref pa2] h0 n0 [] [] (Q4 Z  h0) := by
  refine mi B12 ef5 (hEW G) fun s X0 hsf0 n0le => ?_
  have := F0.l
  have := F2.l
  have := F5.l
  have := F6.l
  refine oA 1 X0 d12_0 rfl rfl <| oA 2 X0 d12_1 rfl rfl <| o_acmp 7 (same := false) X0 d12_2 rfl rfl (decide_eq_false (fun q => absurd (Value.ref.inj q) (own_ne (by omega)))) (by decide) (by decide) <| oA 8 X0 d12_7 rfl rfl <| o_instY 11 X0 (w81 G) (Ins.self F2) d12_8 rfl ?_
  intro _ X2
  refine on 14 X2 d12_11 rfl ((if0 _ _).trans (feq (by decide)).1) <| oA 15 X2 d12_14 rfl rfl <| o_castY 18 X2 (w81 G) (Ins.self F2) d12_15 rfl ?_
  intro _ X4
  refine oV 19 (l' := #[rr pa1, rr pa2, rr pa2]) X4 d12_18 rfl rfl rfl <| oG 22 X4 (w25 G) Via.refl ((sg15 G).ext X4.old.2) d12_19 rfl ?_
  intro _ X6
  refine on 25 X6 d12_22 rfl ((if0 _ _).trans (feq (hzc G)).1) <| oA 26 X6 d12_25 rfl rfl <| oF 29 X6 (w26 G) Via.refl F0 d12_26 rfl ?_
  intro _ X8
  refine oA 30 X8 d12_29 rfl rfl <| oF 33 X8 (w26 G) Via.refl F3 d12_30 rfl ?_
  intro _ X10
  refine oN 36 X10 d12_33 rfl (teq pc_0).2 <| oA 37 X10 d12_36 rfl rfl <| oF 40 X10 (w19 G) Via.refl F1 d12_37 rfl ?_
  intro _ X12
  refine oA 41 X12 d12_40 rfl rfl <| oF 44 X12 (w19 G) Via.refl F4 d12_41 rfl ?_
  intro _ X14
  refine mS 47 0 X14 (rm_au12 G F5 F6 pc_1) (u9 G) all0 d12_44 rfl rfl rfl lr (by decide) all0 ?_
  rintro _ _ _ _ X15 rfl _ _ _
  refine oy 54 X15 d12_47 (by decide) ((if0 _ _).trans (teq (by decide)).1) <| oc 55 (v := 0) X15 d12_54 rfl (by decide) ?_
  exact o_nret (y := (0 : Int32)) (t := .boolean) X15 d12_55 rfl (by decide) (by simp) (by decide) (by decide) (fun _ CC => rfl)
def Q13 (Z : State) (h0 : Heap) (v : Option Value) (h : Heap) (vm : Vm) : Prop := v = some .null
theorem rm_au14 (F0 : ex0 Z h0 pa1) (F1 : fd0 Z h0 pa1 (.int pi100)) (F2 : fd1 Z h0 pa1 (.ref pa2)) (F3 : av0 Z h0 pa2 pk1 0 ps_pa2) (pc_0 : pi100 = (0 : Int32)) : M11 G 2 8 152 28 #[.ref pa1] h0 n0 [] [] (Q13 Z  h0) := by
  have hw := G.1
  refine mi B11 ef3 (hEW G) fun s X0 hsf0 n0le => ?_
  have := F0.l
  have := F3.l
  refine oA 1 X0 d11_0 rfl rfl <| o_ldcC 3 (n := 16) (vs := own_bs ([117, 115, 101, 114] : List Int32)) (z := (4 : Int32)) X0 (w0 G) (hws_str hw) (by decide) ⟨by decide, rfl⟩ (by decide) (by decide) d11_1 rfl (by decide) (by decide) (by decide) (by decide) ?_
  intro a1 b1 kb1 _ h1 _ X1 E1 _ Es1 Cs1 Vs1 As1 _
  have lta1 : h1.size > a1 := Es1.lt
  have ltb1 : h1.size > b1 := As1.lt
  have := E1.1
  have Bs1 : av0 Z h1 b1 kb1 4 [.int 117, .int 115, .int 101, .int 114] := As1
  have f3 := F2.ext E1
  have f4 := F3.ext E1
  have := own_neL f3 f4 Vs1 As1 (by decide)
  have f5 := F1.ext E1
  have f6 := F0.ext E1
  refine mV 6 0 X1 f6 (rm_au13 G f5 f3 Es1 Cs1 Vs1 f4 Bs1 pc_0 (by decide) (by omega)) (u10 G) all0 d11_3 rfl rfl rfl lr (by decide) all0 ?_
  rintro _ _ _ _ X7 rfl K7 _ _
  refine oy 13 X7 d11_6 (by decide) ((if0 _ _).trans (teq (by decide)).1) <| oA 14 X7 d11_13 rfl rfl <| o_ldcC 16 (n := 16) (vs := own_bs ([114, 111, 108, 101] : List Int32)) (z := (4 : Int32)) X7 (w85 G) (hws_str hw) (by decide) ⟨by decide, rfl⟩ (by decide) (by decide) d11_14 rfl (by decide) (by decide) (by decide) (by decide) ?_
  intro a8 b8 kb8 _ h8 _ X8 E8 _ Es8 Cs8 Vs8 As8 _
  have lta8 : h8.size > a8 := Es8.lt
  have ltb8 : h8.size > b8 := As8.lt
  have := E8.1
  have Bs8 : av0 Z h8 b8 kb8 4 [.int 114, .int 111, .int 108, .int 101] := As8
  have f10 := (f3.k0 K7).ext E8
  have f11 := (f4.k0 K7).ext E8
  have := own_neL f10 f11 Vs8 As8 (by decide)
  have f12 := (f5.k0 K7).ext E8
  have f13 := (f6.keep K7).ext E8
  refine mV 19 0 X8 f13 (rm_au13 G f12 f10 Es8 Cs8 Vs8 f11 Bs8 pc_0 (by decide) (by omega)) (u10 G) all0 d11_16 rfl rfl rfl lr (by decide) all0 ?_
  rintro _ _ _ _ X14 rfl K14 _ _
  refine oy 26 X14 d11_19 (by decide) ((if0 _ _).trans (teq (by decide)).1) <| oA 27 X14 d11_26 rfl rfl <| o_ldcC 29 (n := 20) (vs := own_bs ([103, 114, 111, 117, 112] : List Int32)) (z := (5 : Int32)) X14 (w86 G) (hws_str hw) (by decide) ⟨by decide, rfl⟩ (by decide) (by decide) d11_27 rfl (by decide) (by decide) (by decide) (by decide) ?_
  intro a15 b15 kb15 _ h15 _ X15 E15 _ Es15 Cs15 Vs15 As15 _
  have lta15 : h15.size > a15 := Es15.lt
  have ltb15 : h15.size > b15 := As15.lt
  have := E15.1
  have Bs15 : av0 Z h15 b15 kb15 5 [.int 103, .int 114, .int 111, .int 117, .int 112] := As15
  have f17 := (((Vs1.k0 K7).ext E8).k0 K14).ext E15
  have f18 := (((Bs1.k0 K7).ext E8).k0 K14).ext E15
  have := own_neL f17 f18 Vs15 As15 (by decide)
  have f20 := (Vs8.k0 K14).ext E15
  have f21 := (Bs8.k0 K14).ext E15
  have := own_neL f20 f21 Vs15 As15 (by decide)
  have f23 := (f10.k0 K14).ext E15
  have f24 := (f11.k0 K14).ext E15
  have := own_neL f23 f24 Vs15 As15 (by decide)
  have f25 := (f12.k0 K14).ext E15
  have f26 := (f13.keep K14).ext E15
  refine mV 32 0 X15 f26 (rm_au13 G f25 f23 Es15 Cs15 Vs15 f24 Bs15 pc_0 (by decide) (by omega)) (u10 G) all0 d11_29 rfl rfl rfl lr (by decide) all0 ?_
  rintro _ _ _ _ X27 rfl K27 _ _
  refine oy 39 X27 d11_32 (by decide) ((if0 _ _).trans (teq (by decide)).1) <| oA 40 X27 d11_39 rfl rfl <| o_ldcC 42 (n := 84) (vs := own_bs ([114, 111, 108, 101, 45, 97, 110, 100, 45, 115, 117, 98, 111, 114, 100, 105, 110, 97, 116, 101, 115] : List Int32)) (z := (21 : Int32)) X27 (w87 G) (hws_str hw) (by decide) ⟨by decide, rfl⟩ (by decide) (by decide) d11_40 rfl (by decide) (by decide) (by decide) (by decide) ?_
  intro a28 b28 kb28 _ h28 _ X28 E28 _ Es28 Cs28 Vs28 As28 _
  have lta28 : h28.size > a28 := Es28.lt
  have ltb28 : h28.size > b28 := As28.lt
  have := E28.1
  have Bs28 : av0 Z h28 b28 kb28 21 [.int 114, .int 111, .int 108, .int 101, .int 45, .int 97, .int 110, .int 100, .int 45, .int 115, .int 117, .int 98, .int 111, .int 114, .int 100, .int 105, .int 110, .int 97, .int 116, .int 101, .int 115] := As28
  have f30 := (f17.k0 K27).ext E28
  have f31 := (f18.k0 K27).ext E28
  have := own_neL f30 f31 Vs28 As28 (by decide)
  have f33 := (Vs15.k0 K27).ext E28
  have f34 := (Bs15.k0 K27).ext E28
  have := own_neL f33 f34 Vs28 As28 (by decide)
  have f36 := (f20.k0 K27).ext E28
  have f37 := (f21.k0 K27).ext E28
  have := own_neL f36 f37 Vs28 As28 (by decide)
  have f39 := (f23.k0 K27).ext E28
  have f40 := (f24.k0 K27).ext E28
  have := own_neL f39 f40 Vs28 As28 (by decide)
  have f41 := (f25.k0 K27).ext E28
  have f42 := (f26.keep K27).ext E28
  refine mV 45 0 X28 f42 (rm_au13 G f41 f39 Es28 Cs28 Vs28 f40 Bs28 pc_0 (by decide) (by omega)) (u10 G) all0 d11_42 rfl rfl rfl lr (by decide) all0 ?_
  rintro _ _ _ _ X43 rfl _ _ _
  refine oy 52 X43 d11_45 (by decide) ((if0 _ _).trans (teq (by decide)).1) <| o_aconstNull 53 X43 d11_52 rfl ?_
  exact oR X43 d11_53 rfl rfl rfl (by decide) (by decide) (fun _ CC => rfl)
def Q14 (Z : State) (b1 : ClassId) (b2 b3 b4 b5 : Addr) (h0 : Heap) (v : Option Value) (h : Heap) (vm : Vm) : Prop := ∃ (xa1 : Addr), v = some (.ref xa1) ∧ av2 Z h xa1 b1 4 [.ref b2, .ref b3, .ref b4, .ref b5] ∧ ex2 Z h xa1 ∧ h0.size ≤ xa1 ∧ h.size > xa1
theorem rm_au15  : M14 G 1 1 4 14 #[] h0 n0 [] [] (Q14 Z kvv ku1 ku2 ku3 ku4 h0) := by
  refine mi B14 ef8 (hEW G) fun s X0 hsf0 n0le => ?_
  refine oG 3 X0 (w95 G) Via.refl ((sg22 G).ext X0.old.2) d14_0 rfl ?_
  intro _ X2
  have f3 := (sg4 G).ext X2.old.2
  have f4 := (sg14 G).ext X2.old.2
  refine o_clone 6 (W := 0) (cap := 4) X2 (w97 G) (w98 G) (w102 G) (w100 G) (w101 G) (w103 G) f3 f4 d14_3 rfl rfl (by decide) (Nat.le_of_eq rfl) (by decide) (by decide) (by decide) (by decide) ?_
  intro _ _ b5 X5 _ _ _ V5 A5 _ _
  refine o_castY 9 X5 (w109 G) (Ins.self A5) d14_6 rfl ?_
  intro _ X7
  exact oR X7 d14_9 rfl rfl rfl (by decide) (by decide) (fun _ CC => ⟨b5, rfl, V5, A5, by omega⟩)
def Q15 (Z : State) (b1 : Addr) (h0 : Heap) (v : Option Value) (h : Heap) (vm : Vm) : Prop := v = some (.ref b1)
theorem rm_au16  : M15 G 0 0 0 0 #[] h0 n0 [] [] (Q15 Z oem h0) := by
  refine mi B15 ef9 (hEW G) fun s X0 hsf0 n0le => ?_
  refine oG 3 X0 (w118 G) Via.refl ((sg21 G).ext X0.old.2) d15_0 rfl ?_
  intro _ X2
  refine oV 4 (l' := #[rr oem]) X2 d15_3 rfl rfl rfl <| oA 5 X2 d15_4 rfl rfl ?_
  exact oR X2 d15_5 rfl rfl rfl (by decide) (by decide) (fun _ CC => rfl)
theorem rm_au17 (F0 : ex0 Z h0 pa1) (F1 : fd0 Z h0 pa1 (.int pi100)) (F2 : fd1 Z h0 pa1 (.ref pa2)) (F3 : av0 Z h0 pa2 pk1 pi101 ps_pa2) (pc_0 : (0 : Int32) = pi100) (pc_1 : ¬ (4 : Int32) = pi101) (pc_2 : ¬ (21 : Int32) = pi101) (pc_3 : ¬ (5 : Int32) = pi101) (ne : NE su1 pa1 ∧ NE su2 pa1 ∧ NE su3 pa1 ∧ NE su4 pa1) : M13 G 2 1 4 28 #[.ref pa1] h0 n0 [] [] (Q15 Z oem h0) := by
  refine mi B13 ef7 (hEW G) fun s X0 hsf0 n0le => ?_
  have := F0.l
  have := F3.l
  have gl_su1 := ltg_su1 G X0.old
  have gl_su2 := ltg_su2 G X0.old
  have gl_su3 := ltg_su3 G X0.old
  have gl_su4 := ltg_su4 G X0.old
  refine mS 3 0 X0 (rm_au15 G ) (u12 G) all0 d13_0 rfl rfl rfl lr (by decide) all0 ?_
  rintro _ _ _ _ X1 ⟨xa1_2, rfl, q3, _, _⟩ K1 _ _
  refine oV 4 (l' := #[rr pa1, rr xa1_2, uu, uu, uu]) X1 d13_3 rfl rfl rfl <| oA 5 X1 d13_4 rfl rfl <| oL 6 X1 q3 d13_5 rfl <| oT 7 (l' := #[rr pa1, rr xa1_2, ii 4, uu, uu]) X1 d13_6 rfl rfl <| oc 8 (v := 0) X1 d13_7 rfl (by decide) <| oT 9 (l' := #[rr pa1, rr xa1_2, ii 4, ii 0, uu]) X1 d13_8 rfl rfl <| oI 10 X1 d13_9 rfl rfl <| oI 11 X1 d13_10 rfl rfl <| oN 14 X1 d13_11 rfl (tlt (by decide)).2.1 <| oA 15 X1 d13_14 rfl rfl <| oI 16 X1 d13_15 rfl rfl <| o_aaload 17 (v := (.ref ku1)) X1 q3 rfl ⟨by decide, by decide⟩ rfl d13_16 rfl ?_
  refine oU 19 (l' := #[rr pa1, rr xa1_2, ii 4, ii 0, rr ku1]) X1 d13_17 rfl rfl rfl <| oa 21 X1 d13_19 rfl rfl ?_
  have f6 := (F_ku1 G).ext X1.old.2
  refine oF 24 X1 (w111 G) Via.refl f6 d13_21 rfl ?_
  intro _ X8
  refine oA 25 X8 d13_24 rfl rfl ?_
  have f9 := (C_su1 G).ext X8.old.2
  have f10 := (F_su1 G).ext X8.old.2
  have f11 := F0.keep K1
  have f12 := F1.k0 K1
  have f13 := F2.k0 K1
  have f14 := (sg0 G).ext X8.old.2
  have f15 := F3.k0 K1
  have f16 := (sg10 G).ext X8.old.2
  refine mV 28 0 X8 f16 (rm_au13 G f9 f10 f11 f12 f13 f14 f15 pc_0 pc_1 (by omega)) (u13 G) all0 d13_25 rfl rfl rfl lr (by decide) all0 ?_
  rintro _ _ _ _ X17 rfl K17 _ _
  refine oy 37 X17 d13_28 (by decide) ((if0 _ _).trans (teq (by decide)).1) <| oJ 40 1 #[rr pa1, rr xa1_2, ii 4, ii 1, rr ku1] X17 d13_37 rfl rfl (by decide) rfl <| og 9 X17 d13_40 (by decide) <| oI 10 X17 d13_9 rfl rfl <| oI 11 X17 d13_10 rfl rfl <| oN 14 X17 d13_11 rfl (tlt (by decide)).2.1 <| oA 15 X17 d13_14 rfl rfl <| oI 16 X17 d13_15 rfl rfl ?_
  have f18 := q3.k0 K17
  refine o_aaload 17 (v := (.ref ku2)) X17 f18 rfl ⟨by decide, by decide⟩ rfl d13_16 rfl <| oU 19 (l' := #[rr pa1, rr xa1_2, ii 4, ii 1, rr ku2]) X17 d13_17 rfl rfl rfl <| oa 21 X17 d13_19 rfl rfl ?_
  have f19 := (F_ku2 G).ext X17.old.2
  refine oF 24 X17 (w111 G) Via.refl f19 d13_21 rfl ?_
  intro _ X21
  refine oA 25 X21 d13_24 rfl rfl ?_
  have f22 := (C_su2 G).ext X21.old.2
  have f23 := (F_su2 G).ext X21.old.2
  have f24 := f11.keep K17
  have f25 := f12.k0 K17
  have f26 := f13.k0 K17
  have f27 := (sg1 G).ext X21.old.2
  have f28 := f15.k0 K17
  have f29 := (sg11 G).ext X21.old.2
  refine mV 28 0 X21 f29 (rm_au13 G f22 f23 f24 f25 f26 f27 f28 pc_0 pc_1 (by omega)) (u13 G) all0 d13_25 rfl rfl rfl lr (by decide) all0 ?_
  rintro _ _ _ _ X30 rfl K30 _ _
  refine oy 37 X30 d13_28 (by decide) ((if0 _ _).trans (teq (by decide)).1) <| oJ 40 2 #[rr pa1, rr xa1_2, ii 4, ii 2, rr ku2] X30 d13_37 rfl rfl (by decide) rfl <| og 9 X30 d13_40 (by decide) <| oI 10 X30 d13_9 rfl rfl <| oI 11 X30 d13_10 rfl rfl <| oN 14 X30 d13_11 rfl (tlt (by decide)).2.1 <| oA 15 X30 d13_14 rfl rfl <| oI 16 X30 d13_15 rfl rfl ?_
  have f31 := f18.k0 K30
  refine o_aaload 17 (v := (.ref ku3)) X30 f31 rfl ⟨by decide, by decide⟩ rfl d13_16 rfl <| oU 19 (l' := #[rr pa1, rr xa1_2, ii 4, ii 2, rr ku3]) X30 d13_17 rfl rfl rfl <| oa 21 X30 d13_19 rfl rfl ?_
  have f32 := (F_ku3 G).ext X30.old.2
  refine oF 24 X30 (w111 G) Via.refl f32 d13_21 rfl ?_
  intro _ X34
  refine oA 25 X34 d13_24 rfl rfl ?_
  have f35 := (C_su3 G).ext X34.old.2
  have f36 := (F_su3 G).ext X34.old.2
  have f37 := f24.keep K30
  have f38 := f25.k0 K30
  have f39 := f26.k0 K30
  have f40 := (sg2 G).ext X34.old.2
  have f41 := f28.k0 K30
  have f42 := (sg12 G).ext X34.old.2
  refine mV 28 0 X34 f42 (rm_au13 G f35 f36 f37 f38 f39 f40 f41 pc_0 pc_2 (by omega)) (u13 G) all0 d13_25 rfl rfl rfl lr (by decide) all0 ?_
  rintro _ _ _ _ X43 rfl K43 _ _
  refine oy 37 X43 d13_28 (by decide) ((if0 _ _).trans (teq (by decide)).1) <| oJ 40 3 #[rr pa1, rr xa1_2, ii 4, ii 3, rr ku3] X43 d13_37 rfl rfl (by decide) rfl <| og 9 X43 d13_40 (by decide) <| oI 10 X43 d13_9 rfl rfl <| oI 11 X43 d13_10 rfl rfl <| oN 14 X43 d13_11 rfl (tlt (by decide)).2.1 <| oA 15 X43 d13_14 rfl rfl <| oI 16 X43 d13_15 rfl rfl ?_
  have f44 := f31.k0 K43
  refine o_aaload 17 (v := (.ref ku4)) X43 f44 rfl ⟨by decide, by decide⟩ rfl d13_16 rfl <| oU 19 (l' := #[rr pa1, rr xa1_2, ii 4, ii 3, rr ku4]) X43 d13_17 rfl rfl rfl <| oa 21 X43 d13_19 rfl rfl ?_
  have f45 := (F_ku4 G).ext X43.old.2
  refine oF 24 X43 (w111 G) Via.refl f45 d13_21 rfl ?_
  intro _ X47
  refine oA 25 X47 d13_24 rfl rfl ?_
  have f48 := (C_su4 G).ext X47.old.2
  have f49 := (F_su4 G).ext X47.old.2
  have f50 := f37.keep K43
  have f51 := f38.k0 K43
  have f52 := f39.k0 K43
  have f53 := (sg3 G).ext X47.old.2
  have f54 := f41.k0 K43
  have f55 := (sg13 G).ext X47.old.2
  refine mV 28 0 X47 f55 (rm_au13 G f48 f49 f50 f51 f52 f53 f54 pc_0 pc_3 (by omega)) (u13 G) all0 d13_25 rfl rfl rfl lr (by decide) all0 ?_
  rintro _ _ _ _ X56 rfl _ _ _
  refine oy 37 X56 d13_28 (by decide) ((if0 _ _).trans (teq (by decide)).1) <| oJ 40 4 #[rr pa1, rr xa1_2, ii 4, ii 4, rr ku4] X56 d13_37 rfl rfl (by decide) rfl <| og 9 X56 d13_40 (by decide) <| oI 10 X56 d13_9 rfl rfl <| oI 11 X56 d13_10 rfl rfl <| oY 43 X56 d13_11 (by decide) (flt (by decide)).2.1 <| mS 46 0 X56 (rm_au16 G ) (u14 G) all0 d13_43 rfl rfl rfl lr (by decide) all0 ?_
  rintro _ _ _ _ X57 rfl _ _ _
  exact oR X57 d13_46 rfl rfl rfl (by decide) (by decide) (fun _ CC => rfl)
theorem rm_au18  : M16 G 0 0 0 0 #[.ref oem, .null] h0 n0 [] [] (Q13 Z  h0) := by
  refine mi B16 ef10 (hEW G) fun s X0 hsf0 n0le => ?_
  refine oA 1 X0 d16_0 rfl rfl ?_
  have f1 := (F_oem G).ext X0.old.2
  refine oF 4 X0 (w124 G) Via.refl f1 d16_1 rfl ?_
  intro _ X3
  refine ifnullYesJ 14 X3 d16_4 (by decide) <| o_aloadN 15 X3 d16_14 rfl rfl rfl ?_
  exact oR X3 d16_15 rfl rfl rfl (by decide) (by decide) (fun _ CC => rfl)
def Q16 (Z : State) (b1 : Addr) (b2 : ClassId) (b3 b4 b5 : Int32) (h0 : Heap) (v : Option Value) (h : Heap) (vm : Vm) : Prop := v = some (.int 3) ∧ av0 Z h b1 b2 3 [.int (b3.toInt8.toInt32), .int (b4.toInt8.toInt32), .int (b5.toInt8.toInt32)] ∧ ex3 Z h b1
theorem rm_au19 (F0 : av1 Z h0 pa1 pk1 3 [.int pi1, .int pi2, .int pi3]) (F1 : av0 Z h0 pa2 pk2 3 [.int pi100, .int pi101, .int pi102]) (F2 : ex3 Z h0 pa2) (rg_pi1 : ¬ pi1 < 0 ∧ ¬ (255 : Int32) < pi1) (rg_pi2 : ¬ pi2 < 0 ∧ ¬ (255 : Int32) < pi2) (rg_pi3 : ¬ pi3 < 0 ∧ ¬ (255 : Int32) < pi3) (ne : NE pa1 pa2 ∧ n0 ≤ pa2) : M20 G 0 0 0 0 #[.ref pa1, i0, .ref pa2, i0, .int 3] h0 n0 [pa2] [pa2] (Q16 Z pa2 pk2 pi1 pi2 pi3 h0) := by
  refine mi B20 ef14 (hEW G) fun s X0 hsf0 n0le => ?_
  have := F0.l
  have := F1.l
  have sf_pa2 := hsf0 pa2 (by simp)
  refine oc 1 (v := 0) X0 d20_0 rfl (by decide) <| oS 3 (l' := #[rr pa1, ii 0, rr pa2, ii 0, ii 3, ii 0, uu]) X0 d20_1 rfl rfl <| oi 5 X0 d20_3 rfl rfl <| oi 7 X0 d20_5 rfl rfl <| oN 10 X0 d20_7 rfl (tlt (by decide)).2.1 <| oA 11 X0 d20_10 rfl rfl <| oI 12 X0 d20_11 rfl rfl <| oC 13 (v := (.int pi1)) X0 F0 ⟨by decide, by decide⟩ rfl d20_12 rfl <| oS 15 (l' := #[rr pa1, ii 0, rr pa2, ii 0, ii 3, ii 0, ii pi1]) X0 d20_13 rfl rfl <| oi 17 X0 d20_15 rfl rfl <| o_sipush 20 (v := 255) X0 d20_17 rfl (by decide) <| oY 26 X0 d20_20 (by decide) (flt rg_pi1.2).2.2.2 ?_
  refine oA 27 X0 d20_26 rfl rfl <| oI 28 X0 d20_27 rfl rfl <| oi 30 X0 d20_28 rfl rfl <| o_i2b 31 (v := (pi1.toInt8.toInt32)) X0 d20_30 rfl rfl <| sB 32 0 (pi1.toInt8.toInt32) X0 F1 (by decide) (lb rfl) (own_narB _) d20_31 rfl (by omega) (Or.inl (by simp)) sf_pa2 ?_
  rintro _ _ X1 ⟨_, _, W1⟩ C1 V1
  have := W1.size
  have V2 := V1.as [.int (pi1.toInt8.toInt32), .int pi101, .int pi102] rfl
  refine oJ 35 1 #[rr pa1, ii 1, rr pa2, ii 0, ii 3, ii 0, ii pi1] X1 d20_32 rfl rfl (by decide) rfl <| oJ 38 1 #[rr pa1, ii 1, rr pa2, ii 1, ii 3, ii 0, ii pi1] X1 d20_35 rfl rfl (by decide) rfl <| oJ 41 1 #[rr pa1, ii 1, rr pa2, ii 1, ii 3, ii 1, ii pi1] X1 d20_38 rfl rfl (by decide) rfl <| og 3 X1 d20_41 (by decide) <| oi 5 X1 d20_3 rfl rfl <| oi 7 X1 d20_5 rfl rfl <| oN 10 X1 d20_7 rfl (tlt (by decide)).2.1 <| oA 11 X1 d20_10 rfl rfl <| oI 12 X1 d20_11 rfl rfl ?_
  have f3 := F0.oth W1 (by omega)
  refine oC 13 (v := (.int pi2)) X1 f3 ⟨by decide, by decide⟩ rfl d20_12 rfl <| oS 15 (l' := #[rr pa1, ii 1, rr pa2, ii 1, ii 3, ii 1, ii pi2]) X1 d20_13 rfl rfl <| oi 17 X1 d20_15 rfl rfl <| o_sipush 20 (v := 255) X1 d20_17 rfl (by decide) <| oY 26 X1 d20_20 (by decide) (flt rg_pi2.2).2.2.2 <| oA 27 X1 d20_26 rfl rfl <| oI 28 X1 d20_27 rfl rfl <| oi 30 X1 d20_28 rfl rfl <| o_i2b 31 (v := (pi2.toInt8.toInt32)) X1 d20_30 rfl rfl ?_
  have f5 := C1.safe (own_lt (by omega)) sf_pa2
  refine sB 32 1 (pi2.toInt8.toInt32) X1 V2 (by decide) (lb rfl) (own_narB _) d20_31 rfl (by omega) (Or.inl (by simp)) f5 ?_
  rintro _ _ X4 ⟨_, _, W4⟩ C4 V4
  have := W4.size
  have V6 := V4.as [.int (pi1.toInt8.toInt32), .int (pi2.toInt8.toInt32), .int pi102] rfl
  refine oJ 35 2 #[rr pa1, ii 2, rr pa2, ii 1, ii 3, ii 1, ii pi2] X4 d20_32 rfl rfl (by decide) rfl <| oJ 38 2 #[rr pa1, ii 2, rr pa2, ii 2, ii 3, ii 1, ii pi2] X4 d20_35 rfl rfl (by decide) rfl <| oJ 41 2 #[rr pa1, ii 2, rr pa2, ii 2, ii 3, ii 2, ii pi2] X4 d20_38 rfl rfl (by decide) rfl <| og 3 X4 d20_41 (by decide) <| oi 5 X4 d20_3 rfl rfl <| oi 7 X4 d20_5 rfl rfl <| oN 10 X4 d20_7 rfl (tlt (by decide)).2.1 <| oA 11 X4 d20_10 rfl rfl <| oI 12 X4 d20_11 rfl rfl ?_
  have f7 := f3.oth W4 (by omega)
  refine oC 13 (v := (.int pi3)) X4 f7 ⟨by decide, by decide⟩ rfl d20_12 rfl <| oS 15 (l' := #[rr pa1, ii 2, rr pa2, ii 2, ii 3, ii 2, ii pi3]) X4 d20_13 rfl rfl <| oi 17 X4 d20_15 rfl rfl <| o_sipush 20 (v := 255) X4 d20_17 rfl (by decide) <| oY 26 X4 d20_20 (by decide) (flt rg_pi3.2).2.2.2 <| oA 27 X4 d20_26 rfl rfl <| oI 28 X4 d20_27 rfl rfl <| oi 30 X4 d20_28 rfl rfl <| o_i2b 31 (v := (pi3.toInt8.toInt32)) X4 d20_30 rfl rfl ?_
  have f9 := C4.safe (own_lt (by omega)) f5
  refine sB 32 2 (pi3.toInt8.toInt32) X4 V6 (by decide) (lb rfl) (own_narB _) d20_31 rfl (by omega) (Or.inl (by simp)) f9 ?_
  rintro _ _ X8 ⟨_, _, W8⟩ _ V8
  have := W8.size
  have V10 := V8.as [.int (pi1.toInt8.toInt32), .int (pi2.toInt8.toInt32), .int (pi3.toInt8.toInt32)] rfl
  refine oJ 35 3 #[rr pa1, ii 3, rr pa2, ii 2, ii 3, ii 2, ii pi3] X8 d20_32 rfl rfl (by decide) rfl <| oJ 38 3 #[rr pa1, ii 3, rr pa2, ii 3, ii 3, ii 2, ii pi3] X8 d20_35 rfl rfl (by decide) rfl <| oJ 41 3 #[rr pa1, ii 3, rr pa2, ii 3, ii 3, ii 3, ii pi3] X8 d20_38 rfl rfl (by decide) rfl <| og 3 X8 d20_41 (by decide) <| oi 5 X8 d20_3 rfl rfl <| oi 7 X8 d20_5 rfl rfl <| oY 44 X8 d20_7 (by decide) (flt (by decide)).2.1 <| oi 46 X8 d20_44 rfl rfl ?_
  have f11 := ((F2.wr W1).wr W4).wr W8
  exact o_iret X8 d20_46 rfl (by decide) (by decide) (fun _ CC => ⟨rfl, V10, f11⟩)
def Q17 (Z : State) (b1 b2 b3 : Int32) (h0 : Heap) (v : Option Value) (h : Heap) (vm : Vm) : Prop := ∃ (xa1 : Addr) (xk1 : ClassId), v = some (.ref xa1) ∧ av0 Z h xa1 xk1 3 [.int (b1.toInt8.toInt32), .int (b2.toInt8.toInt32), .int (b3.toInt8.toInt32)] ∧ ex3 Z h xa1 ∧ Safe Z EL0 vm h xa1 ∧ h0.size ≤ xa1 ∧ h.size > xa1
theorem rm_au20 (F0 : av1 Z h0 pa1 pk1 3 [.int pi1, .int pi2, .int pi3]) (rg_pi1 : ¬ pi1 < 0 ∧ ¬ (255 : Int32) < pi1) (rg_pi2 : ¬ pi2 < 0 ∧ ¬ (255 : Int32) < pi2) (rg_pi3 : ¬ pi3 < 0 ∧ ¬ (255 : Int32) < pi3) : M19 G 1 1 3 18 #[.ref pa1, i0, .int 3] h0 n0 [] [] (Q17 Z pi1 pi2 pi3 h0) := by
  refine mi B19 ef13 (hEW G) fun s X0 hsf0 n0le => ?_
  have l1 := F0.l
  refine oI 1 X0 d19_0 rfl rfl <| nP (aty := .byte) 3 3 X0 (w3 G) d19_1 rfl (by decide) had_byte ?_
  intro _ h1 b1 k1 X1 _ l1 E1 V1 A1 _ S1
  have V2 : av0 Z h1 b1 k1 3 [i0, i0, i0] := V1.pad (pad_rep [] (.int (0 : Int32)) 3)
  refine oV 4 (l' := #[rr pa1, ii 0, ii 3, rr b1, uu, uu]) X1 d19_3 rfl rfl rfl <| oA 5 X1 d19_4 rfl rfl <| oI 6 X1 d19_5 rfl rfl <| oA 7 X1 d19_6 rfl rfl <| oc 8 (v := 0) X1 d19_7 rfl (by decide) <| oI 9 X1 d19_8 rfl rfl ?_
  have f3 := F0.ext E1
  refine mS 12 0 X1 (rm_au19 G f3 V2 A1 rg_pi1 rg_pi2 rg_pi3 (by omega)) (u17 G) (sS (by omega) S1 all0) d19_9 rfl rfl rfl lr (by decide) (aR (by omega) all0) ?_
  rintro _ _ _ _ X4 ⟨rfl, q5, q6⟩ _ _ C4
  refine oS 14 (l' := #[rr pa1, ii 0, ii 3, rr b1, ii 3, uu]) X4 d19_12 rfl rfl <| oi 16 X4 d19_14 rfl rfl <| oI 17 X4 d19_16 rfl rfl <| oY 57 X4 d19_17 (by decide) (teq (by decide)).1 <| oA 58 X4 d19_57 rfl rfl ?_
  have f7 := C4.safe (own_lt (by omega)) S1
  exact oR X4 d19_58 rfl rfl rfl (by decide) (by decide) (fun _ CC => ⟨b1, k1, rfl, q5, q6, (CC.safe (own_lt (by omega)) f7), by omega⟩)
theorem rm_au21 (F0 : av0 Z h0 pa1 pk1 3 ps_pa1) : M21 G 0 0 0 0 #[.ref pa1, .int 3] h0 n0 [] [] (Q4 Z  h0) := by
  refine mi B21 ef0 (hEW G) fun s X0 hsf0 n0le => ?_
  have := F0.l
  refine oI 1 X0 d21_0 rfl rfl <| oA 2 X0 d21_1 rfl rfl <| oL 3 X0 F0 d21_2 rfl <| o_isub 4 (v := 0) X0 d21_3 rfl (by decide) <| ob 6 (v := 31) X0 d21_4 rfl (by decide) <| o_iushr 7 (v := 0) X0 d21_6 rfl (by decide) <| o_i2b 8 (v := 0) X0 d21_7 rfl (by decide) ?_
  exact o_nret (y := (0 : Int32)) (t := .byte) X0 d21_8 rfl (by decide) (by simp) (by decide) (by decide) (fun _ CC => rfl)
def Q18 (Z : State) (b1 : Addr) (b2 b3 b4 : Int32) (h0 : Heap) (v : Option Value) (h : Heap) (vm : Vm) : Prop := ∃ (xa1 : Addr) (xk1 : ClassId), v = none ∧ ex0 Z h b1 ∧ fd0 Z h b1 (.int 0) ∧ fd1 Z h b1 (.ref xa1) ∧ av0 Z h xa1 xk1 3 [.int (b2.toInt8.toInt32), .int (b3.toInt8.toInt32), .int (b4.toInt8.toInt32)] ∧ ex3 Z h xa1 ∧ Safe Z EL0 vm h xa1 ∧ h0.size ≤ xa1 ∧ h.size > xa1
theorem rm_au22 (F0 : ex0 Z h0 pa1) (F1 : fd0 Z h0 pa1 (.int pi1)) (F2 : fd1 Z h0 pa1 .null) (F3 : av1 Z h0 pa2 pk1 3 [.int pi2, .int pi3, .int pi4]) (rg_pi2 : ¬ pi2 < 0 ∧ ¬ (255 : Int32) < pi2) (rg_pi3 : ¬ pi3 < 0 ∧ ¬ (255 : Int32) < pi3) (rg_pi4 : ¬ pi4 < 0 ∧ ¬ (255 : Int32) < pi4) (ne : NE pa1 pa2 ∧ n0 ≤ pa1) : M18 G 2 1 3 35 #[.ref pa1, .ref pa2, i0, .int 3, .null] h0 n0 [pa1] [pa1] (Q18 Z pa1 pi2 pi3 pi4 h0) := by
  refine mi B18 ef12 (hEW G) fun s X0 hsf0 n0le => ?_
  have := F0.l
  have := F3.l
  have sf_pa1 := hsf0 pa1 (by simp)
  refine oA 1 X0 d18_0 rfl rfl <| o_initO 4 (W := 0) X0 (w60 G) (w61 G) (w62 G) rfl (by decide) (Nat.le_of_eq rfl) (by decide) d18_1 rfl ?_
  intro _ X2
  refine oI 5 X2 d18_4 rfl rfl <| oy 27 X2 d18_5 (by decide) ((if0 _ _).trans (feq (by decide)).2) <| oG 30 X2 (w25 G) Via.refl ((sg15 G).ext X2.old.2) d18_27 rfl ?_
  intro _ X4
  refine on 33 X4 d18_30 rfl ((if0 _ _).trans (feq (hzc G)).1) <| oA 34 X4 d18_33 rfl rfl <| oI 35 X4 d18_34 rfl rfl <| oI 36 X4 d18_35 rfl rfl <| mS 39 0 X4 (rm_au20 G F3 rg_pi2 rg_pi3 rg_pi4) (u18 G) all0 d18_36 rfl rfl rfl lr (by decide) all0 ?_
  rintro _ _ _ _ X5 ⟨xa1_6, xk1_7, rfl, q8, q9, q10, _⟩ K5 _ C5
  refine oU 41 (l' := #[rr pa1, rr pa2, ii 0, ii 3, .val .null, rr xa1_6]) X5 d18_39 rfl rfl rfl <| oA 42 X5 d18_41 rfl rfl <| oa 44 X5 d18_42 rfl rfl <| oI 45 X5 d18_44 rfl rfl <| mS 48 1 X5 (rm_au21 G q8) (u19 G) all0 d18_45 rfl rfl rfl lr (by decide) all0 ?_
  rintro _ _ _ _ X12 rfl K12 _ C12
  have f13 := (F1.k0 K5).k0 K12
  have f14 := (F0.keep K5).keep K12
  have f16 := C12.safe (own_lt (by omega)) (C5.safe (own_lt (by omega)) sf_pa1)
  refine oP 51 (v' := (.int 0)) X12 (w26 G) Via.refl f13 f14 (Or.inr ⟨(w5 G), rfl, rfl⟩) (w2 G) fd_1 rfl rfl d18_48 rfl (by omega) (Or.inl (by simp)) f16 ?_
  intro _ _ X15 W15 C15
  have := W15.size
  have f17 := f13.same W15
  refine oA 52 X15 d18_51 rfl rfl <| oa 54 X15 d18_52 rfl rfl ?_
  have f18 := ((F2.k0 K5).k0 K12).other W15 (Or.inr (sn0 G))
  have f19 := f14.wr W15
  have f21 := C15.safe (own_lt (by omega)) f16
  refine oP 57 (v' := (.ref xa1_6)) X15 (w19 G) Via.refl f18 f19 (Or.inr ⟨(w4 G), rfl, rfl⟩) (w2 G) fd_0 rfl rfl d18_54 rfl (by omega) (Or.inl (by simp)) f21 ?_
  intro _ _ X20 W20 C20
  have := W20.size
  have f22 := f18.same W20
  have f23 := f19.wr W20
  have f24 := f17.other W20 (Or.inr (sn1 G))
  have f25 := ((q8.k0 K12).oth W15 (by omega)).oth W20 (by omega)
  have f26 := ((q9.keep K12).wr W15).wr W20
  have f27 := C20.safe (own_lt (by omega)) (C15.safe (own_lt (by omega)) (C12.safe (own_lt (by omega)) q10))
  exact oz X20 d18_57 rfl (by decide) (by decide) (fun _ CC => ⟨xa1_6, xk1_7, rfl, f23, f24, f22, f25, f26, (CC.safe (own_lt (by omega)) f27), by omega⟩)
theorem rm_au23 (F0 : ex0 Z h0 pa1) (F1 : fd0 Z h0 pa1 (.int pi100)) (F2 : fd1 Z h0 pa1 .null) (F3 : av1 Z h0 pa2 pk1 3 [.int pi1, .int pi2, .int pi3]) (rg_pi1 : ¬ pi1 < 0 ∧ ¬ (255 : Int32) < pi1) (rg_pi2 : ¬ pi2 < 0 ∧ ¬ (255 : Int32) < pi2) (rg_pi3 : ¬ pi3 < 0 ∧ ¬ (255 : Int32) < pi3) (ne : NE pa1 pa2 ∧ n0 ≤ pa1) : M17 G 3 1 3 52 #[.ref pa1, .ref pa2] h0 n0 [pa1] [pa1] (Q18 Z pa1 pi1 pi2 pi3 h0) := by
  refine mi B17 ef11 (hEW G) fun s X0 hsf0 n0le => ?_
  have := F0.l
  have := F3.l
  have sf_pa1 := hsf0 pa1 (by simp)
  refine oA 1 X0 d17_0 rfl rfl <| oA 2 X0 d17_1 rfl rfl <| oc 3 (v := 0) X0 d17_2 rfl (by decide) <| oA 4 X0 d17_3 rfl rfl <| oL 5 X0 F3 d17_4 rfl <| o_aconstNull 6 X0 d17_5 rfl <| mP 9 0 X0 (rm_au22 G F0 F1 F2 F3 rg_pi1 rg_pi2 rg_pi3 (by omega)) (u20 G) (sS (by omega) sf_pa1 all0) d17_6 rfl rfl rfl lr (by decide) (aI (by omega) (by simp) all0) ?_
  rintro _ _ _ _ X1 ⟨xa1_2, xk1_3, rfl, q4, q5, q6, q7, q8, q9, _⟩ _ _ _
  exact oz X1 d17_9 rfl (by decide) (by decide) (fun _ CC => ⟨xa1_2, xk1_3, rfl, q4, q5, q6, q7, q8, (CC.safe (own_lt (by omega)) q9), by omega⟩)
def Q19 (Z : State) (b1 b2 b3 : Int32) (h0 : Heap) (v : Option Value) (h : Heap) (vm : Vm) : Prop := ∃ (xa1 : Addr) (xa2 : Addr) (xk1 : ClassId), v = some (.ref xa1) ∧ ex0 Z h xa1 ∧ fd0 Z h xa1 (.int 0) ∧ fd1 Z h xa1 (.ref xa2) ∧ Safe Z EL0 vm h xa1 ∧ av0 Z h xa2 xk1 3 [.int (b1.toInt8.toInt32), .int (b2.toInt8.toInt32), .int (b3.toInt8.toInt32)] ∧ ex3 Z h xa2 ∧ Safe Z EL0 vm h xa2 ∧ h0.size ≤ xa1 ∧ h.size > xa1 ∧ h0.size ≤ xa2 ∧ h.size > xa2 ∧ NE xa1 xa2
theorem rm_au24 (F0 : av1 Z h0 pa1 pk1 22 [.int pi1, .int pi2, .int pi3, .int pi4, .int pi5, .int pi6, .int pi7, .int pi8, .int pi9, .int pi10, .int pi11, .int pi12, .int pi13, .int pi14, .int pi15, .int pi16, .int pi17, .int pi18, .int pi19, .int pi20, .int pi21, .int pi22]) (rg_pi1 : ¬ pi1 < 0 ∧ ¬ (255 : Int32) < pi1) (rg_pi2 : ¬ pi2 < 0 ∧ ¬ (255 : Int32) < pi2) (rg_pi3 : ¬ pi3 < 0 ∧ ¬ (255 : Int32) < pi3) (rg_pi4 : ¬ pi4 < 0 ∧ ¬ (255 : Int32) < pi4) (rg_pi5 : ¬ pi5 < 0 ∧ ¬ (255 : Int32) < pi5) (rg_pi6 : ¬ pi6 < 0 ∧ ¬ (255 : Int32) < pi6) (rg_pi7 : ¬ pi7 < 0 ∧ ¬ (255 : Int32) < pi7) (rg_pi8 : ¬ pi8 < 0 ∧ ¬ (255 : Int32) < pi8) (rg_pi9 : ¬ pi9 < 0 ∧ ¬ (255 : Int32) < pi9) (rg_pi10 : ¬ pi10 < 0 ∧ ¬ (255 : Int32) < pi10) (rg_pi11 : ¬ pi11 < 0 ∧ ¬ (255 : Int32) < pi11) (rg_pi12 : ¬ pi12 < 0 ∧ ¬ (255 : Int32) < pi12) (rg_pi13 : ¬ pi13 < 0 ∧ ¬ (255 : Int32) < pi13) (rg_pi14 : ¬ pi14 < 0 ∧ ¬ (255 : Int32) < pi14) (rg_pi15 : ¬ pi15 < 0 ∧ ¬ (255 : Int32) < pi15) (rg_pi16 : ¬ pi16 < 0 ∧ ¬ (255 : Int32) < pi16) (rg_pi17 : ¬ pi17 < 0 ∧ ¬ (255 : Int32) < pi17) (rg_pi18 : ¬ pi18 < 0 ∧ ¬ (255 : Int32) < pi18) (rg_pi19 : ¬ pi19 < 0 ∧ ¬ (255 : Int32) < pi19) (rg_pi20 : ¬ pi20 < 0 ∧ ¬ (255 : Int32) < pi20) (rg_pi21 : ¬ pi21 < 0 ∧ ¬ (255 : Int32) < pi21) (rg_pi22 : ¬ pi22 < 0 ∧ ¬ (255 : Int32) < pi22) (pc_0 : ¬ pi100 = (0 : Int32)) (pc_1 : pi100 = (1 : Int32)) : M10 G 4 3 10 66 #[.ref pa1, .int pi100] h0 n0 [] [] (Q19 Z pi1 pi2 pi3 h0) := by
  refine mi B10 ef0 (hEW G) fun s X0 hsf0 n0le => ?_
  have l1 := F0.l
  refine oI 1 X0 d10_0 rfl rfl <| oy 7 X0 d10_1 (by decide) ((if0 _ _).trans (feq pc_0).2) <| oI 8 X0 d10_7 rfl rfl <| oc 9 (v := 1) X0 d10_8 rfl (by decide) <| oN 12 X0 d10_9 rfl (teq pc_1).2 <| o_new 15 X0 (w52 G) (w2 G) (w1 G) d10_12 rfl (by decide) (by decide) ?_
  intro _ h1 b1 X1 _ l1 E1 A1 D1 _ _ S1
  have f2 : fd1 Z h1 b1 .null := D1 (Or.inr (w4 G)) fd_0
  have f3 : fd0 Z h1 b1 (.int 0) := D1 (Or.inr (w5 G)) fd_1
  refine oD 16 X1 d10_15 rfl rfl <| oc 17 (v := 3) X1 d10_16 rfl (by decide) <| nP (aty := .char) 19 3 X1 (w9 G) d10_17 rfl (by decide) had_char ?_
  intro _ h4 b4 k4 X4 _ _ E4 V4 A4 C4 _
  have V5 : av1 Z h4 b4 k4 3 [i0, i0, i0] := V4.pad (pad_rep [] (.int (0 : Int32)) 3)
  refine oD 20 X4 d10_19 rfl rfl <| oc 21 (v := 0) X4 d10_20 rfl (by decide) <| oA 22 X4 d10_21 rfl rfl <| oc 23 (v := 0) X4 d10_22 rfl (by decide) ?_
  have f6 := (F0.ext E1).ext E4
  refine oC 24 (v := (.int pi1)) X4 f6 ⟨by decide, by decide⟩ rfl d10_23 rfl <| sC 25 0 pi1 X4 V5 (by decide) (lb rfl) (own_narC rg_pi1) d10_24 rfl (by omega) (Or.inr (by omega)) (sx X4 A4 nc0) ?_
  rintro _ _ X7 ⟨_, _, W7⟩ C7 V7
  have := W7.size
  have V8 := V7.as [.int pi1, i0, i0] rfl
  refine oD 26 X7 d10_25 rfl rfl <| oc 27 (v := 1) X7 d10_26 rfl (by decide) <| oA 28 X7 d10_27 rfl rfl <| oc 29 (v := 1) X7 d10_28 rfl (by decide) ?_
  have f9 := f6.oth W7 (by omega)
  refine oC 30 (v := (.int pi2)) X7 f9 ⟨by decide, by decide⟩ rfl d10_29 rfl ?_
  have f11 := A4.wr W7
  refine sC 31 1 pi2 X7 V8 (by decide) (lb rfl) (own_narC rg_pi2) d10_30 rfl (by omega) (Or.inr (by omega)) (sx X7 f11 nc0) ?_
  rintro _ _ X10 ⟨_, _, W10⟩ C10 V10
  have := W10.size
  have V12 := V10.as [.int pi1, .int pi2, i0] rfl
  refine oD 32 X10 d10_31 rfl rfl <| oc 33 (v := 2) X10 d10_32 rfl (by decide) <| oA 34 X10 d10_33 rfl rfl <| oc 35 (v := 2) X10 d10_34 rfl (by decide) ?_
  have f13 := f9.oth W10 (by omega)
  refine oC 36 (v := (.int pi3)) X10 f13 ⟨by decide, by decide⟩ rfl d10_35 rfl ?_
  have f15 := f11.wr W10
  refine sC 37 2 pi3 X10 V12 (by decide) (lb rfl) (own_narC rg_pi3) d10_36 rfl (by omega) (Or.inr (by omega)) (sx X10 f15 nc0) ?_
  rintro _ _ X14 ⟨_, _, W14⟩ C14 V14
  have := W14.size
  have V16 := V14.as [.int pi1, .int pi2, .int pi3] rfl
  have f17 := (((A1.ext E4).wr W7).wr W10).wr W14
  have f18 := (((f3.ext E4).oth W7 (by omega)).oth W10 (by omega)).oth W14 (by omega)
  have f19 := (((f2.ext E4).oth W7 (by omega)).oth W10 (by omega)).oth W14 (by omega)
  have f20 := C14.safe (own_lt (by omega)) (C10.safe (own_lt (by omega)) (C7.safe (own_lt (by omega)) (C4.safe (own_lt (by omega)) S1)))
  refine mP 40 1 X14 (rm_au23 G f17 f18 f19 V16 rg_pi1 rg_pi2 rg_pi3 (by omega)) (u21 G) (sS (by omega) f20 all0) d10_37 rfl rfl rfl lr (by decide) (aR (by omega) all0) ?_
  rintro _ _ _ _ X21 ⟨xa1_22, xk1_23, rfl, q24, q25, q26, q27, q28, q29, _⟩ _ _ C21
  have f31 := C21.safe (own_lt (by omega)) f20
  exact oR X21 d10_40 rfl rfl rfl (by decide) (by decide) (fun _ CC => ⟨b1, xa1_22, xk1_23, rfl, q24, q25, q26, (CC.safe (own_lt (by omega)) f31), q27, q28, (CC.safe (own_lt (by omega)) q29), by omega⟩)
theorem rm_au25 (F0 : ex0 Z h0 pa1) (F1 : fd0 Z h0 pa1 (.int pi100)) (F2 : fd1 Z h0 pa1 (.ref pa2)) (F3 : av0 Z h0 pa2 pk1 pi101 ps_pa2) (F4 : ex3 Z h0 pa2) (pc_0 : pi100 = (0 : Int32)) (pc_1 : ¬ pi101 = (4 : Int32)) (pc_2 : ¬ pi101 = (5 : Int32)) (pc_3 : ¬ pi101 = (21 : Int32)) : M11 G 2 8 152 28 #[.ref pa1] h0 n0 [] [pa1, pa2] (Q13 Z  h0) := by
  have hw := G.1
  refine mi B11 ef3 (hEW G) fun s X0 hsf0 n0le => ?_
  have := F0.l
  have := F3.l
  have sf_pa1 := hsf0 pa1 (by simp)
  have sf_pa2 := hsf0 pa2 (by simp)
  refine oA 1 X0 d11_0 rfl rfl <| o_ldcC 3 (n := 16) (vs := own_bs ([117, 115, 101, 114] : List Int32)) (z := (4 : Int32)) X0 (w0 G) (hws_str hw) (by decide) ⟨by decide, rfl⟩ (by decide) (by decide) d11_1 rfl (by decide) (by decide) (by decide) (by decide) ?_
  intro a1 b1 kb1 _ h1 _ X1 E1 C1 Es1 Cs1 Vs1 As1 SF1
  have lta1 : h1.size > a1 := Es1.lt
  have ltb1 : h1.size > b1 := As1.lt
  have := E1.1
  have Bs1 : av0 Z h1 b1 kb1 4 [.int 117, .int 115, .int 101, .int 114] := As1
  have f3 := C1.safe (own_lt (by omega)) sf_pa1
  have := own_nes (SF1 pa1 f3)
  have f5 := C1.safe (own_lt (by omega)) sf_pa2
  have := own_nes (SF1 pa2 f5)
  have f6 := F1.ext E1
  have f7 := F2.ext E1
  have f8 := F3.ext E1
  have f9 := F0.ext E1
  refine mV 6 0 X1 f9 (rm_au13 G f6 f7 Es1 Cs1 Vs1 f8 Bs1 pc_0 pc_1 (by omega)) (u10 G) all0 d11_3 rfl rfl rfl lr (by decide) all0 ?_
  rintro _ _ _ _ X10 rfl K10 _ C10
  refine oy 13 X10 d11_6 (by decide) ((if0 _ _).trans (teq (by decide)).1) <| oA 14 X10 d11_13 rfl rfl <| o_ldcC 16 (n := 16) (vs := own_bs ([114, 111, 108, 101] : List Int32)) (z := (4 : Int32)) X10 (w85 G) (hws_str hw) (by decide) ⟨by decide, rfl⟩ (by decide) (by decide) d11_14 rfl (by decide) (by decide) (by decide) (by decide) ?_
  intro a11 b11 kb11 _ h11 _ X11 E11 C11 Es11 Cs11 Vs11 As11 SF11
  have lta11 : h11.size > a11 := Es11.lt
  have ltb11 : h11.size > b11 := As11.lt
  have := E11.1
  have Bs11 : av0 Z h11 b11 kb11 4 [.int 114, .int 111, .int 108, .int 101] := As11
  have f13 := C11.safe (own_lt (by omega)) (C10.safe (own_lt (by omega)) f3)
  have := own_nes (SF11 pa1 f13)
  have f15 := C11.safe (own_lt (by omega)) (C10.safe (own_lt (by omega)) f5)
  have := own_nes (SF11 pa2 f15)
  have f16 := (f6.k0 K10).ext E11
  have f17 := (f7.k0 K10).ext E11
  have f18 := (f8.k0 K10).ext E11
  have f19 := (f9.keep K10).ext E11
  refine mV 19 0 X11 f19 (rm_au13 G f16 f17 Es11 Cs11 Vs11 f18 Bs11 pc_0 pc_1 (by omega)) (u10 G) all0 d11_16 rfl rfl rfl lr (by decide) all0 ?_
  rintro _ _ _ _ X20 rfl K20 _ C20
  refine oy 26 X20 d11_19 (by decide) ((if0 _ _).trans (teq (by decide)).1) <| oA 27 X20 d11_26 rfl rfl <| o_ldcC 29 (n := 20) (vs := own_bs ([103, 114, 111, 117, 112] : List Int32)) (z := (5 : Int32)) X20 (w86 G) (hws_str hw) (by decide) ⟨by decide, rfl⟩ (by decide) (by decide) d11_27 rfl (by decide) (by decide) (by decide) (by decide) ?_
  intro a21 b21 kb21 _ h21 _ X21 E21 C21 Es21 Cs21 Vs21 As21 SF21
  have lta21 : h21.size > a21 := Es21.lt
  have ltb21 : h21.size > b21 := As21.lt
  have := E21.1
  have Bs21 : av0 Z h21 b21 kb21 5 [.int 103, .int 114, .int 111, .int 117, .int 112] := As21
  have f23 := (((Vs1.k0 K10).ext E11).k0 K20).ext E21
  have f24 := (((Bs1.k0 K10).ext E11).k0 K20).ext E21
  have := own_neL f23 f24 Vs21 As21 (by decide)
  have f26 := (Vs11.k0 K20).ext E21
  have f27 := (Bs11.k0 K20).ext E21
  have := own_neL f26 f27 Vs21 As21 (by decide)
  have f29 := C21.safe (own_lt (by omega)) (C20.safe (own_lt (by omega)) f13)
  have := own_nes (SF21 pa1 f29)
  have f31 := C21.safe (own_lt (by omega)) (C20.safe (own_lt (by omega)) f15)
  have := own_nes (SF21 pa2 f31)
  have f32 := (f16.k0 K20).ext E21
  have f33 := (f17.k0 K20).ext E21
  have f34 := (f18.k0 K20).ext E21
  have f35 := (f19.keep K20).ext E21
  refine mV 32 0 X21 f35 (rm_au13 G f32 f33 Es21 Cs21 Vs21 f34 Bs21 pc_0 pc_2 (by omega)) (u10 G) all0 d11_29 rfl rfl rfl lr (by decide) all0 ?_
  rintro _ _ _ _ X36 rfl K36 _ C36
  refine oy 39 X36 d11_32 (by decide) ((if0 _ _).trans (teq (by decide)).1) <| oA 40 X36 d11_39 rfl rfl <| o_ldcC 42 (n := 84) (vs := own_bs ([114, 111, 108, 101, 45, 97, 110, 100, 45, 115, 117, 98, 111, 114, 100, 105, 110, 97, 116, 101, 115] : List Int32)) (z := (21 : Int32)) X36 (w87 G) (hws_str hw) (by decide) ⟨by decide, rfl⟩ (by decide) (by decide) d11_40 rfl (by decide) (by decide) (by decide) (by decide) ?_
  intro a37 b37 kb37 _ h37 _ X37 E37 C37 Es37 Cs37 Vs37 As37 SF37
  have lta37 : h37.size > a37 := Es37.lt
  have ltb37 : h37.size > b37 := As37.lt
  have := E37.1
  have Bs37 : av0 Z h37 b37 kb37 21 [.int 114, .int 111, .int 108, .int 101, .int 45, .int 97, .int 110, .int 100, .int 45, .int 115, .int 117, .int 98, .int 111, .int 114, .int 100, .int 105, .int 110, .int 97, .int 116, .int 101, .int 115] := As37
  have f39 := (f23.k0 K36).ext E37
  have f40 := (f24.k0 K36).ext E37
  have := own_neL f39 f40 Vs37 As37 (by decide)
  have f42 := (f26.k0 K36).ext E37
  have f43 := (f27.k0 K36).ext E37
  have := own_neL f42 f43 Vs37 As37 (by decide)
  have f45 := (Vs21.k0 K36).ext E37
  have f46 := (Bs21.k0 K36).ext E37
  have := own_neL f45 f46 Vs37 As37 (by decide)
  have f48 := C37.safe (own_lt (by omega)) (C36.safe (own_lt (by omega)) f29)
  have := own_nes (SF37 pa1 f48)
  have f50 := C37.safe (own_lt (by omega)) (C36.safe (own_lt (by omega)) f31)
  have := own_nes (SF37 pa2 f50)
  have f51 := (f32.k0 K36).ext E37
  have f52 := (f33.k0 K36).ext E37
  have f53 := (f34.k0 K36).ext E37
  have f54 := (f35.keep K36).ext E37
  refine mV 45 0 X37 f54 (rm_au13 G f51 f52 Es37 Cs37 Vs37 f53 Bs37 pc_0 pc_3 (by omega)) (u10 G) all0 d11_42 rfl rfl rfl lr (by decide) all0 ?_
  rintro _ _ _ _ X55 rfl _ _ _
  refine oy 52 X55 d11_45 (by decide) ((if0 _ _).trans (teq (by decide)).1) <| o_aconstNull 53 X55 d11_52 rfl ?_
  exact oR X55 d11_53 rfl rfl rfl (by decide) (by decide) (fun _ CC => rfl)
def Q20 (Z : State) (b1 : Addr) (b2 : ClassId) (b3 b4 b5 b6 : Int32) (h0 : Heap) (v : Option Value) (h : Heap) (vm : Vm) : Prop := v = some (.int 4) ∧ av0 Z h b1 b2 4 [.int (b3.toInt8.toInt32), .int (b4.toInt8.toInt32), .int (b5.toInt8.toInt32), .int (b6.toInt8.toInt32)] ∧ ex3 Z h b1
theorem rm_au26 (F0 : av1 Z h0 pa1 pk1 4 [.int pi1, .int pi2, .int pi3, .int pi4]) (F1 : av0 Z h0 pa2 pk2 4 [.int pi100, .int pi101, .int pi102, .int pi103]) (F2 : ex3 Z h0 pa2) (rg_pi1 : ¬ pi1 < 0 ∧ ¬ (255 : Int32) < pi1) (rg_pi2 : ¬ pi2 < 0 ∧ ¬ (255 : Int32) < pi2) (rg_pi3 : ¬ pi3 < 0 ∧ ¬ (255 : Int32) < pi3) (rg_pi4 : ¬ pi4 < 0 ∧ ¬ (255 : Int32) < pi4) (ne : NE pa1 pa2 ∧ n0 ≤ pa2) : M20 G 0 0 0 0 #[.ref pa1, i0, .ref pa2, i0, .int 4] h0 n0 [pa2] [pa2] (Q20 Z pa2 pk2 pi1 pi2 pi3 pi4 h0) := by
  refine mi B20 ef14 (hEW G) fun s X0 hsf0 n0le => ?_
  have := F0.l
  have := F1.l
  have sf_pa2 := hsf0 pa2 (by simp)
  refine oc 1 (v := 0) X0 d20_0 rfl (by decide) <| oS 3 (l' := #[rr pa1, ii 0, rr pa2, ii 0, ii 4, ii 0, uu]) X0 d20_1 rfl rfl <| oi 5 X0 d20_3 rfl rfl <| oi 7 X0 d20_5 rfl rfl <| oN 10 X0 d20_7 rfl (tlt (by decide)).2.1 <| oA 11 X0 d20_10 rfl rfl <| oI 12 X0 d20_11 rfl rfl <| oC 13 (v := (.int pi1)) X0 F0 ⟨by decide, by decide⟩ rfl d20_12 rfl <| oS 15 (l' := #[rr pa1, ii 0, rr pa2, ii 0, ii 4, ii 0, ii pi1]) X0 d20_13 rfl rfl <| oi 17 X0 d20_15 rfl rfl <| o_sipush 20 (v := 255) X0 d20_17 rfl (by decide) <| oY 26 X0 d20_20 (by decide) (flt rg_pi1.2).2.2.2 ?_
  refine oA 27 X0 d20_26 rfl rfl <| oI 28 X0 d20_27 rfl rfl <| oi 30 X0 d20_28 rfl rfl <| o_i2b 31 (v := (pi1.toInt8.toInt32)) X0 d20_30 rfl rfl <| sB 32 0 (pi1.toInt8.toInt32) X0 F1 (by decide) (lb rfl) (own_narB _) d20_31 rfl (by omega) (Or.inl (by simp)) sf_pa2 ?_
  rintro _ _ X1 ⟨_, _, W1⟩ C1 V1
  have := W1.size
  have V2 := V1.as [.int (pi1.toInt8.toInt32), .int pi101, .int pi102, .int pi103] rfl
  refine oJ 35 1 #[rr pa1, ii 1, rr pa2, ii 0, ii 4, ii 0, ii pi1] X1 d20_32 rfl rfl (by decide) rfl <| oJ 38 1 #[rr pa1, ii 1, rr pa2, ii 1, ii 4, ii 0, ii pi1] X1 d20_35 rfl rfl (by decide) rfl <| oJ 41 1 #[rr pa1, ii 1, rr pa2, ii 1, ii 4, ii 1, ii pi1] X1 d20_38 rfl rfl (by decide) rfl <| og 3 X1 d20_41 (by decide) <| oi 5 X1 d20_3 rfl rfl <| oi 7 X1 d20_5 rfl rfl <| oN 10 X1 d20_7 rfl (tlt (by decide)).2.1 <| oA 11 X1 d20_10 rfl rfl <| oI 12 X1 d20_11 rfl rfl ?_
  have f3 := F0.oth W1 (by omega)
  refine oC 13 (v := (.int pi2)) X1 f3 ⟨by decide, by decide⟩ rfl d20_12 rfl <| oS 15 (l' := #[rr pa1, ii 1, rr pa2, ii 1, ii 4, ii 1, ii pi2]) X1 d20_13 rfl rfl <| oi 17 X1 d20_15 rfl rfl <| o_sipush 20 (v := 255) X1 d20_17 rfl (by decide) <| oY 26 X1 d20_20 (by decide) (flt rg_pi2.2).2.2.2 <| oA 27 X1 d20_26 rfl rfl <| oI 28 X1 d20_27 rfl rfl <| oi 30 X1 d20_28 rfl rfl <| o_i2b 31 (v := (pi2.toInt8.toInt32)) X1 d20_30 rfl rfl ?_
  have f5 := C1.safe (own_lt (by omega)) sf_pa2
  refine sB 32 1 (pi2.toInt8.toInt32) X1 V2 (by decide) (lb rfl) (own_narB _) d20_31 rfl (by omega) (Or.inl (by simp)) f5 ?_
  rintro _ _ X4 ⟨_, _, W4⟩ C4 V4
  have := W4.size
  have V6 := V4.as [.int (pi1.toInt8.toInt32), .int (pi2.toInt8.toInt32), .int pi102, .int pi103] rfl
  refine oJ 35 2 #[rr pa1, ii 2, rr pa2, ii 1, ii 4, ii 1, ii pi2] X4 d20_32 rfl rfl (by decide) rfl <| oJ 38 2 #[rr pa1, ii 2, rr pa2, ii 2, ii 4, ii 1, ii pi2] X4 d20_35 rfl rfl (by decide) rfl <| oJ 41 2 #[rr pa1, ii 2, rr pa2, ii 2, ii 4, ii 2, ii pi2] X4 d20_38 rfl rfl (by decide) rfl <| og 3 X4 d20_41 (by decide) <| oi 5 X4 d20_3 rfl rfl <| oi 7 X4 d20_5 rfl rfl <| oN 10 X4 d20_7 rfl (tlt (by decide)).2.1 <| oA 11 X4 d20_10 rfl rfl <| oI 12 X4 d20_11 rfl rfl ?_
  have f7 := f3.oth W4 (by omega)
  refine oC 13 (v := (.int pi3)) X4 f7 ⟨by decide, by decide⟩ rfl d20_12 rfl <| oS 15 (l' := #[rr pa1, ii 2, rr pa2, ii 2, ii 4, ii 2, ii pi3]) X4 d20_13 rfl rfl <| oi 17 X4 d20_15 rfl rfl <| o_sipush 20 (v := 255) X4 d20_17 rfl (by decide) <| oY 26 X4 d20_20 (by decide) (flt rg_pi3.2).2.2.2 <| oA 27 X4 d20_26 rfl rfl <| oI 28 X4 d20_27 rfl rfl <| oi 30 X4 d20_28 rfl rfl <| o_i2b 31 (v := (pi3.toInt8.toInt32)) X4 d20_30 rfl rfl ?_
  have f9 := C4.safe (own_lt (by omega)) f5
  refine sB 32 2 (pi3.toInt8.toInt32) X4 V6 (by decide) (lb rfl) (own_narB _) d20_31 rfl (by omega) (Or.inl (by simp)) f9 ?_
  rintro _ _ X8 ⟨_, _, W8⟩ C8 V8
  have := W8.size
  have V10 := V8.as [.int (pi1.toInt8.toInt32), .int (pi2.toInt8.toInt32), .int (pi3.toInt8.toInt32), .int pi103] rfl
  refine oJ 35 3 #[rr pa1, ii 3, rr pa2, ii 2, ii 4, ii 2, ii pi3] X8 d20_32 rfl rfl (by decide) rfl <| oJ 38 3 #[rr pa1, ii 3, rr pa2, ii 3, ii 4, ii 2, ii pi3] X8 d20_35 rfl rfl (by decide) rfl <| oJ 41 3 #[rr pa1, ii 3, rr pa2, ii 3, ii 4, ii 3, ii pi3] X8 d20_38 rfl rfl (by decide) rfl <| og 3 X8 d20_41 (by decide) <| oi 5 X8 d20_3 rfl rfl <| oi 7 X8 d20_5 rfl rfl <| oN 10 X8 d20_7 rfl (tlt (by decide)).2.1 <| oA 11 X8 d20_10 rfl rfl <| oI 12 X8 d20_11 rfl rfl ?_
  have f11 := f7.oth W8 (by omega)
  refine oC 13 (v := (.int pi4)) X8 f11 ⟨by decide, by decide⟩ rfl d20_12 rfl <| oS 15 (l' := #[rr pa1, ii 3, rr pa2, ii 3, ii 4, ii 3, ii pi4]) X8 d20_13 rfl rfl <| oi 17 X8 d20_15 rfl rfl <| o_sipush 20 (v := 255) X8 d20_17 rfl (by decide) <| oY 26 X8 d20_20 (by decide) (flt rg_pi4.2).2.2.2 <| oA 27 X8 d20_26 rfl rfl <| oI 28 X8 d20_27 rfl rfl <| oi 30 X8 d20_28 rfl rfl <| o_i2b 31 (v := (pi4.toInt8.toInt32)) X8 d20_30 rfl rfl ?_
  have f13 := C8.safe (own_lt (by omega)) f9
  refine sB 32 3 (pi4.toInt8.toInt32) X8 V10 (by decide) (lb rfl) (own_narB _) d20_31 rfl (by omega) (Or.inl (by simp)) f13 ?_
  rintro _ _ X12 ⟨_, _, W12⟩ _ V12
  have := W12.size
  have V14 := V12.as [.int (pi1.toInt8.toInt32), .int (pi2.toInt8.toInt32), .int (pi3.toInt8.toInt32), .int (pi4.toInt8.toInt32)] rfl
  refine oJ 35 4 #[rr pa1, ii 4, rr pa2, ii 3, ii 4, ii 3, ii pi4] X12 d20_32 rfl rfl (by decide) rfl <| oJ 38 4 #[rr pa1, ii 4, rr pa2, ii 4, ii 4, ii 3, ii pi4] X12 d20_35 rfl rfl (by decide) rfl <| oJ 41 4 #[rr pa1, ii 4, rr pa2, ii 4, ii 4, ii 4, ii pi4] X12 d20_38 rfl rfl (by decide) rfl <| og 3 X12 d20_41 (by decide) <| oi 5 X12 d20_3 rfl rfl <| oi 7 X12 d20_5 rfl rfl <| oY 44 X12 d20_7 (by decide) (flt (by decide)).2.1 <| oi 46 X12 d20_44 rfl rfl ?_
  have f15 := (((F2.wr W1).wr W4).wr W8).wr W12
  exact o_iret X12 d20_46 rfl (by decide) (by decide) (fun _ CC => ⟨rfl, V14, f15⟩)
def Q21 (Z : State) (b1 b2 b3 b4 : Int32) (h0 : Heap) (v : Option Value) (h : Heap) (vm : Vm) : Prop := ∃ (xa1 : Addr) (xk1 : ClassId), v = some (.ref xa1) ∧ av0 Z h xa1 xk1 4 [.int (b1.toInt8.toInt32), .int (b2.toInt8.toInt32), .int (b3.toInt8.toInt32), .int (b4.toInt8.toInt32)] ∧ ex3 Z h xa1 ∧ Safe Z EL0 vm h xa1 ∧ h0.size ≤ xa1 ∧ h.size > xa1
theorem rm_au27 (F0 : av1 Z h0 pa1 pk1 4 [.int pi1, .int pi2, .int pi3, .int pi4]) (rg_pi1 : ¬ pi1 < 0 ∧ ¬ (255 : Int32) < pi1) (rg_pi2 : ¬ pi2 < 0 ∧ ¬ (255 : Int32) < pi2) (rg_pi3 : ¬ pi3 < 0 ∧ ¬ (255 : Int32) < pi3) (rg_pi4 : ¬ pi4 < 0 ∧ ¬ (255 : Int32) < pi4) : M19 G 1 1 4 18 #[.ref pa1, i0, .int 4] h0 n0 [] [] (Q21 Z pi1 pi2 pi3 pi4 h0) := by
  refine mi B19 ef13 (hEW G) fun s X0 hsf0 n0le => ?_
  have l1 := F0.l
  refine oI 1 X0 d19_0 rfl rfl <| nP (aty := .byte) 3 4 X0 (w3 G) d19_1 rfl (by decide) had_byte ?_
  intro _ h1 b1 k1 X1 _ l1 E1 V1 A1 _ S1
  have V2 : av0 Z h1 b1 k1 4 [i0, i0, i0, i0] := V1.pad (pad_rep [] (.int (0 : Int32)) 4)
  refine oV 4 (l' := #[rr pa1, ii 0, ii 4, rr b1, uu, uu]) X1 d19_3 rfl rfl rfl <| oA 5 X1 d19_4 rfl rfl <| oI 6 X1 d19_5 rfl rfl <| oA 7 X1 d19_6 rfl rfl <| oc 8 (v := 0) X1 d19_7 rfl (by decide) <| oI 9 X1 d19_8 rfl rfl ?_
  have f3 := F0.ext E1
  refine mS 12 0 X1 (rm_au26 G f3 V2 A1 rg_pi1 rg_pi2 rg_pi3 rg_pi4 (by omega)) (u17 G) (sS (by omega) S1 all0) d19_9 rfl rfl rfl lr (by decide) (aR (by omega) all0) ?_
  rintro _ _ _ _ X4 ⟨rfl, q5, q6⟩ _ _ C4
  refine oS 14 (l' := #[rr pa1, ii 0, ii 4, rr b1, ii 4, uu]) X4 d19_12 rfl rfl <| oi 16 X4 d19_14 rfl rfl <| oI 17 X4 d19_16 rfl rfl <| oY 57 X4 d19_17 (by decide) (teq (by decide)).1 <| oA 58 X4 d19_57 rfl rfl ?_
  have f7 := C4.safe (own_lt (by omega)) S1
  exact oR X4 d19_58 rfl rfl rfl (by decide) (by decide) (fun _ CC => ⟨b1, k1, rfl, q5, q6, (CC.safe (own_lt (by omega)) f7), by omega⟩)
theorem rm_au28 (F0 : av0 Z h0 pa1 pk1 4 ps_pa1) : M21 G 0 0 0 0 #[.ref pa1, .int 4] h0 n0 [] [] (Q4 Z  h0) := by
  refine mi B21 ef0 (hEW G) fun s X0 hsf0 n0le => ?_
  have := F0.l
  refine oI 1 X0 d21_0 rfl rfl <| oA 2 X0 d21_1 rfl rfl <| oL 3 X0 F0 d21_2 rfl <| o_isub 4 (v := 0) X0 d21_3 rfl (by decide) <| ob 6 (v := 31) X0 d21_4 rfl (by decide) <| o_iushr 7 (v := 0) X0 d21_6 rfl (by decide) <| o_i2b 8 (v := 0) X0 d21_7 rfl (by decide) ?_
  exact o_nret (y := (0 : Int32)) (t := .byte) X0 d21_8 rfl (by decide) (by simp) (by decide) (by decide) (fun _ CC => rfl)
def Q22 (Z : State) (b1 : Addr) (b2 b3 b4 b5 : Int32) (h0 : Heap) (v : Option Value) (h : Heap) (vm : Vm) : Prop := ∃ (xa1 : Addr) (xk1 : ClassId), v = none ∧ ex0 Z h b1 ∧ fd0 Z h b1 (.int 0) ∧ fd1 Z h b1 (.ref xa1) ∧ av0 Z h xa1 xk1 4 [.int (b2.toInt8.toInt32), .int (b3.toInt8.toInt32), .int (b4.toInt8.toInt32), .int (b5.toInt8.toInt32)] ∧ ex3 Z h xa1 ∧ Safe Z EL0 vm h xa1 ∧ h0.size ≤ xa1 ∧ h.size > xa1
theorem rm_au29 (F0 : ex0 Z h0 pa1) (F1 : fd0 Z h0 pa1 (.int pi1)) (F2 : fd1 Z h0 pa1 .null) (F3 : av1 Z h0 pa2 pk1 4 [.int pi2, .int pi3, .int pi4, .int pi5]) (rg_pi2 : ¬ pi2 < 0 ∧ ¬ (255 : Int32) < pi2) (rg_pi3 : ¬ pi3 < 0 ∧ ¬ (255 : Int32) < pi3) (rg_pi4 : ¬ pi4 < 0 ∧ ¬ (255 : Int32) < pi4) (rg_pi5 : ¬ pi5 < 0 ∧ ¬ (255 : Int32) < pi5) (ne : NE pa1 pa2 ∧ n0 ≤ pa1) : M18 G 2 1 4 35 #[.ref pa1, .ref pa2, i0, .int 4, .null] h0 n0 [pa1] [pa1] (Q22 Z pa1 pi2 pi3 pi4 pi5 h0) := by
  refine mi B18 ef12 (hEW G) fun s X0 hsf0 n0le => ?_
  have := F0.l
  have := F3.l
  have sf_pa1 := hsf0 pa1 (by simp)
  refine oA 1 X0 d18_0 rfl rfl <| o_initO 4 (W := 0) X0 (w60 G) (w61 G) (w62 G) rfl (by decide) (Nat.le_of_eq rfl) (by decide) d18_1 rfl ?_
  intro _ X2
  refine oI 5 X2 d18_4 rfl rfl <| oy 27 X2 d18_5 (by decide) ((if0 _ _).trans (feq (by decide)).2) <| oG 30 X2 (w25 G) Via.refl ((sg15 G).ext X2.old.2) d18_27 rfl ?_
  intro _ X4
  refine on 33 X4 d18_30 rfl ((if0 _ _).trans (feq (hzc G)).1) <| oA 34 X4 d18_33 rfl rfl <| oI 35 X4 d18_34 rfl rfl <| oI 36 X4 d18_35 rfl rfl <| mS 39 0 X4 (rm_au27 G F3 rg_pi2 rg_pi3 rg_pi4 rg_pi5) (u18 G) all0 d18_36 rfl rfl rfl lr (by decide) all0 ?_
  rintro _ _ _ _ X5 ⟨xa1_6, xk1_7, rfl, q8, q9, q10, _⟩ K5 _ C5
  refine oU 41 (l' := #[rr pa1, rr pa2, ii 0, ii 4, .val .null, rr xa1_6]) X5 d18_39 rfl rfl rfl <| oA 42 X5 d18_41 rfl rfl <| oa 44 X5 d18_42 rfl rfl <| oI 45 X5 d18_44 rfl rfl <| mS 48 1 X5 (rm_au28 G q8) (u19 G) all0 d18_45 rfl rfl rfl lr (by decide) all0 ?_
  rintro _ _ _ _ X12 rfl K12 _ C12
  have f13 := (F1.k0 K5).k0 K12
  have f14 := (F0.keep K5).keep K12
  have f16 := C12.safe (own_lt (by omega)) (C5.safe (own_lt (by omega)) sf_pa1)
  refine oP 51 (v' := (.int 0)) X12 (w26 G) Via.refl f13 f14 (Or.inr ⟨(w5 G), rfl, rfl⟩) (w2 G) fd_1 rfl rfl d18_48 rfl (by omega) (Or.inl (by simp)) f16 ?_
  intro _ _ X15 W15 C15
  have := W15.size
  have f17 := f13.same W15
  refine oA 52 X15 d18_51 rfl rfl <| oa 54 X15 d18_52 rfl rfl ?_
  have f18 := ((F2.k0 K5).k0 K12).other W15 (Or.inr (sn0 G))
  have f19 := f14.wr W15
  have f21 := C15.safe (own_lt (by omega)) f16
  refine oP 57 (v' := (.ref xa1_6)) X15 (w19 G) Via.refl f18 f19 (Or.inr ⟨(w4 G), rfl, rfl⟩) (w2 G) fd_0 rfl rfl d18_54 rfl (by omega) (Or.inl (by simp)) f21 ?_
  intro _ _ X20 W20 C20
  have := W20.size
  have f22 := f18.same W20
  have f23 := f19.wr W20
  have f24 := f17.other W20 (Or.inr (sn1 G))
  have f25 := ((q8.k0 K12).oth W15 (by omega)).oth W20 (by omega)
  have f26 := ((q9.keep K12).wr W15).wr W20
  have f27 := C20.safe (own_lt (by omega)) (C15.safe (own_lt (by omega)) (C12.safe (own_lt (by omega)) q10))
  exact oz X20 d18_57 rfl (by decide) (by decide) (fun _ CC => ⟨xa1_6, xk1_7, rfl, f23, f24, f22, f25, f26, (CC.safe (own_lt (by omega)) f27), by omega⟩)
theorem rm_au30 (F0 : ex0 Z h0 pa1) (F1 : fd0 Z h0 pa1 (.int pi100)) (F2 : fd1 Z h0 pa1 .null) (F3 : av1 Z h0 pa2 pk1 4 [.int pi1, .int pi2, .int pi3, .int pi4]) (rg_pi1 : ¬ pi1 < 0 ∧ ¬ (255 : Int32) < pi1) (rg_pi2 : ¬ pi2 < 0 ∧ ¬ (255 : Int32) < pi2) (rg_pi3 : ¬ pi3 < 0 ∧ ¬ (255 : Int32) < pi3) (rg_pi4 : ¬ pi4 < 0 ∧ ¬ (255 : Int32) < pi4) (ne : NE pa1 pa2 ∧ n0 ≤ pa1) : M17 G 3 1 4 52 #[.ref pa1, .ref pa2] h0 n0 [pa1] [pa1] (Q22 Z pa1 pi1 pi2 pi3 pi4 h0) := by
  refine mi B17 ef11 (hEW G) fun s X0 hsf0 n0le => ?_
  have := F0.l
  have := F3.l
  have sf_pa1 := hsf0 pa1 (by simp)
  refine oA 1 X0 d17_0 rfl rfl <| oA 2 X0 d17_1 rfl rfl <| oc 3 (v := 0) X0 d17_2 rfl (by decide) <| oA 4 X0 d17_3 rfl rfl <| oL 5 X0 F3 d17_4 rfl <| o_aconstNull 6 X0 d17_5 rfl <| mP 9 0 X0 (rm_au29 G F0 F1 F2 F3 rg_pi1 rg_pi2 rg_pi3 rg_pi4 (by omega)) (u20 G) (sS (by omega) sf_pa1 all0) d17_6 rfl rfl rfl lr (by decide) (aI (by omega) (by simp) all0) ?_
  rintro _ _ _ _ X1 ⟨xa1_2, xk1_3, rfl, q4, q5, q6, q7, q8, q9, _⟩ _ _ _
  exact oz X1 d17_9 rfl (by decide) (by decide) (fun _ CC => ⟨xa1_2, xk1_3, rfl, q4, q5, q6, q7, q8, (CC.safe (own_lt (by omega)) q9), by omega⟩)
def Q23 (Z : State) (b1 b2 b3 b4 : Int32) (h0 : Heap) (v : Option Value) (h : Heap) (vm : Vm) : Prop := ∃ (xa1 : Addr) (xa2 : Addr) (xk1 : ClassId), v = some (.ref xa1) ∧ ex0 Z h xa1 ∧ fd0 Z h xa1 (.int 0) ∧ fd1 Z h xa1 (.ref xa2) ∧ Safe Z EL0 vm h xa1 ∧ av0 Z h xa2 xk1 4 [.int (b1.toInt8.toInt32), .int (b2.toInt8.toInt32), .int (b3.toInt8.toInt32), .int (b4.toInt8.toInt32)] ∧ ex3 Z h xa2 ∧ Safe Z EL0 vm h xa2 ∧ h0.size ≤ xa1 ∧ h.size > xa1 ∧ h0.size ≤ xa2 ∧ h.size > xa2 ∧ NE xa1 xa2
theorem rm_au31 (F0 : av1 Z h0 pa1 pk1 22 [.int pi1, .int pi2, .int pi3, .int pi4, .int pi5, .int pi6, .int pi7, .int pi8, .int pi9, .int pi10, .int pi11, .int pi12, .int pi13, .int pi14, .int pi15, .int pi16, .int pi17, .int pi18, .int pi19, .int pi20, .int pi21, .int pi22]) (rg_pi1 : ¬ pi1 < 0 ∧ ¬ (255 : Int32) < pi1) (rg_pi2 : ¬ pi2 < 0 ∧ ¬ (255 : Int32) < pi2) (rg_pi3 : ¬ pi3 < 0 ∧ ¬ (255 : Int32) < pi3) (rg_pi4 : ¬ pi4 < 0 ∧ ¬ (255 : Int32) < pi4) (rg_pi5 : ¬ pi5 < 0 ∧ ¬ (255 : Int32) < pi5) (rg_pi6 : ¬ pi6 < 0 ∧ ¬ (255 : Int32) < pi6) (rg_pi7 : ¬ pi7 < 0 ∧ ¬ (255 : Int32) < pi7) (rg_pi8 : ¬ pi8 < 0 ∧ ¬ (255 : Int32) < pi8) (rg_pi9 : ¬ pi9 < 0 ∧ ¬ (255 : Int32) < pi9) (rg_pi10 : ¬ pi10 < 0 ∧ ¬ (255 : Int32) < pi10) (rg_pi11 : ¬ pi11 < 0 ∧ ¬ (255 : Int32) < pi11) (rg_pi12 : ¬ pi12 < 0 ∧ ¬ (255 : Int32) < pi12) (rg_pi13 : ¬ pi13 < 0 ∧ ¬ (255 : Int32) < pi13) (rg_pi14 : ¬ pi14 < 0 ∧ ¬ (255 : Int32) < pi14) (rg_pi15 : ¬ pi15 < 0 ∧ ¬ (255 : Int32) < pi15) (rg_pi16 : ¬ pi16 < 0 ∧ ¬ (255 : Int32) < pi16) (rg_pi17 : ¬ pi17 < 0 ∧ ¬ (255 : Int32) < pi17) (rg_pi18 : ¬ pi18 < 0 ∧ ¬ (255 : Int32) < pi18) (rg_pi19 : ¬ pi19 < 0 ∧ ¬ (255 : Int32) < pi19) (rg_pi20 : ¬ pi20 < 0 ∧ ¬ (255 : Int32) < pi20) (rg_pi21 : ¬ pi21 < 0 ∧ ¬ (255 : Int32) < pi21) (rg_pi22 : ¬ pi22 < 0 ∧ ¬ (255 : Int32) < pi22) (pc_0 : ¬ pi100 = (0 : Int32)) (pc_1 : ¬ pi100 = (1 : Int32)) (pc_2 : pi100 = (2 : Int32)) : M10 G 4 3 12 66 #[.ref pa1, .int pi100] h0 n0 [] [] (Q23 Z pi1 pi2 pi3 pi4 h0) := by
  refine mi B10 ef0 (hEW G) fun s X0 hsf0 n0le => ?_
  have l1 := F0.l
  refine oI 1 X0 d10_0 rfl rfl <| oy 7 X0 d10_1 (by decide) ((if0 _ _).trans (feq pc_0).2) <| oI 8 X0 d10_7 rfl rfl <| oc 9 (v := 1) X0 d10_8 rfl (by decide) <| oY 41 X0 d10_9 (by decide) (feq pc_1).2 <| oI 42 X0 d10_41 rfl rfl <| oc 43 (v := 2) X0 d10_42 rfl (by decide) <| oN 46 X0 d10_43 rfl (teq pc_2).2 <| o_new 49 X0 (w52 G) (w2 G) (w1 G) d10_46 rfl (by decide) (by decide) ?_
  intro _ h1 b1 X1 _ l1 E1 A1 D1 _ _ S1
  have f2 : fd1 Z h1 b1 .null := D1 (Or.inr (w4 G)) fd_0
  have f3 : fd0 Z h1 b1 (.int 0) := D1 (Or.inr (w5 G)) fd_1
  refine oD 50 X1 d10_49 rfl rfl <| oc 51 (v := 4) X1 d10_50 rfl (by decide) <| nP (aty := .char) 53 4 X1 (w9 G) d10_51 rfl (by decide) had_char ?_
  intro _ h4 b4 k4 X4 _ _ E4 V4 A4 C4 _
  have V5 : av1 Z h4 b4 k4 4 [i0, i0, i0, i0] := V4.pad (pad_rep [] (.int (0 : Int32)) 4)
  refine oD 54 X4 d10_53 rfl rfl <| oc 55 (v := 0) X4 d10_54 rfl (by decide) <| oA 56 X4 d10_55 rfl rfl <| oc 57 (v := 0) X4 d10_56 rfl (by decide) ?_
  have f6 := (F0.ext E1).ext E4
  refine oC 58 (v := (.int pi1)) X4 f6 ⟨by decide, by decide⟩ rfl d10_57 rfl <| sC 59 0 pi1 X4 V5 (by decide) (lb rfl) (own_narC rg_pi1) d10_58 rfl (by omega) (Or.inr (by omega)) (sx X4 A4 nc0) ?_
  rintro _ _ X7 ⟨_, _, W7⟩ C7 V7
  have := W7.size
  have V8 := V7.as [.int pi1, i0, i0, i0] rfl
  refine oD 60 X7 d10_59 rfl rfl <| oc 61 (v := 1) X7 d10_60 rfl (by decide) <| oA 62 X7 d10_61 rfl rfl <| oc 63 (v := 1) X7 d10_62 rfl (by decide) ?_
  have f9 := f6.oth W7 (by omega)
  refine oC 64 (v := (.int pi2)) X7 f9 ⟨by decide, by decide⟩ rfl d10_63 rfl ?_
  have f11 := A4.wr W7
  refine sC 65 1 pi2 X7 V8 (by decide) (lb rfl) (own_narC rg_pi2) d10_64 rfl (by omega) (Or.inr (by omega)) (sx X7 f11 nc0) ?_
  rintro _ _ X10 ⟨_, _, W10⟩ C10 V10
  have := W10.size
  have V12 := V10.as [.int pi1, .int pi2, i0, i0] rfl
  refine oD 66 X10 d10_65 rfl rfl <| oc 67 (v := 2) X10 d10_66 rfl (by decide) <| oA 68 X10 d10_67 rfl rfl <| oc 69 (v := 2) X10 d10_68 rfl (by decide) ?_
  have f13 := f9.oth W10 (by omega)
  refine oC 70 (v := (.int pi3)) X10 f13 ⟨by decide, by decide⟩ rfl d10_69 rfl ?_
  have f15 := f11.wr W10
  refine sC 71 2 pi3 X10 V12 (by decide) (lb rfl) (own_narC rg_pi3) d10_70 rfl (by omega) (Or.inr (by omega)) (sx X10 f15 nc0) ?_
  rintro _ _ X14 ⟨_, _, W14⟩ C14 V14
  have := W14.size
  have V16 := V14.as [.int pi1, .int pi2, .int pi3, i0] rfl
  refine oD 72 X14 d10_71 rfl rfl <| oc 73 (v := 3) X14 d10_72 rfl (by decide) <| oA 74 X14 d10_73 rfl rfl <| oc 75 (v := 3) X14 d10_74 rfl (by decide) ?_
  have f17 := f13.oth W14 (by omega)
  refine oC 76 (v := (.int pi4)) X14 f17 ⟨by decide, by decide⟩ rfl d10_75 rfl ?_
  have f19 := f15.wr W14
  refine sC 77 3 pi4 X14 V16 (by decide) (lb rfl) (own_narC rg_pi4) d10_76 rfl (by omega) (Or.inr (by omega)) (sx X14 f19 nc0) ?_
  rintro _ _ X18 ⟨_, _, W18⟩ C18 V18
  have := W18.size
  have V20 := V18.as [.int pi1, .int pi2, .int pi3, .int pi4] rfl
  have f21 := ((((A1.ext E4).wr W7).wr W10).wr W14).wr W18
  have f22 := ((((f3.ext E4).oth W7 (by omega)).oth W10 (by omega)).oth W14 (by omega)).oth W18 (by omega)
  have f23 := ((((f2.ext E4).oth W7 (by omega)).oth W10 (by omega)).oth W14 (by omega)).oth W18 (by omega)
  have f24 := C18.safe (own_lt (by omega)) (C14.safe (own_lt (by omega)) (C10.safe (own_lt (by omega)) (C7.safe (own_lt (by omega)) (C4.safe (own_lt (by omega)) S1))))
  refine mP 80 1 X18 (rm_au30 G f21 f22 f23 V20 rg_pi1 rg_pi2 rg_pi3 rg_pi4 (by omega)) (u21 G) (sS (by omega) f24 all0) d10_77 rfl rfl rfl lr (by decide) (aR (by omega) all0) ?_
  rintro _ _ _ _ X25 ⟨xa1_26, xk1_27, rfl, q28, q29, q30, q31, q32, q33, _⟩ _ _ C25
  have f35 := C25.safe (own_lt (by omega)) f24
  exact oR X25 d10_80 rfl rfl rfl (by decide) (by decide) (fun _ CC => ⟨b1, xa1_26, xk1_27, rfl, q28, q29, q30, (CC.safe (own_lt (by omega)) f35), q31, q32, (CC.safe (own_lt (by omega)) q33), by omega⟩)
theorem rm_au32 (F0 : fd0 Z h0 pa1 (.int 0)) (F1 : fd1 Z h0 pa1 (.ref pa3)) (F2 : ex0 Z h0 pa2) (F3 : fd0 Z h0 pa2 (.int 0)) (F4 : fd1 Z h0 pa2 (.ref pa4)) (F5 : av0 Z h0 pa3 pk1 4 [.int pi1, .int pi2, .int pi3, .int pi4]) (F6 : av0 Z h0 pa4 pk2 4 [.int 117, .int 115, .int 101, .int 114]) (pc_k1 : (oEq [pi1, pi2, pi3, pi4] [117, 115, 101, 114]) = (0 : Int32)) (ne : NE pa1 pa2) : M12 G 1 0 0 14 #[.ref pa1, .ref pa2] h0 n0 [] [] (Q4 Z  h0) := by
  refine mi B12 ef5 (hEW G) fun s X0 hsf0 n0le => ?_
  have := F0.l
  have := F2.l
  have := F5.l
  have := F6.l
  refine oA 1 X0 d12_0 rfl rfl <| oA 2 X0 d12_1 rfl rfl <| o_acmp 7 (same := false) X0 d12_2 rfl rfl (decide_eq_false (fun q => absurd (Value.ref.inj q) (own_ne (by omega)))) (by decide) (by decide) <| oA 8 X0 d12_7 rfl rfl <| o_instY 11 X0 (w81 G) (Ins.self F2) d12_8 rfl ?_
  intro _ X2
  refine on 14 X2 d12_11 rfl ((if0 _ _).trans (feq (by decide)).1) <| oA 15 X2 d12_14 rfl rfl <| o_castY 18 X2 (w81 G) (Ins.self F2) d12_15 rfl ?_
  intro _ X4
  refine oV 19 (l' := #[rr pa1, rr pa2, rr pa2]) X4 d12_18 rfl rfl rfl <| oG 22 X4 (w25 G) Via.refl ((sg15 G).ext X4.old.2) d12_19 rfl ?_
  intro _ X6
  refine on 25 X6 d12_22 rfl ((if0 _ _).trans (feq (hzc G)).1) <| oA 26 X6 d12_25 rfl rfl <| oF 29 X6 (w26 G) Via.refl F0 d12_26 rfl ?_
  intro _ X8
  refine oA 30 X8 d12_29 rfl rfl <| oF 33 X8 (w26 G) Via.refl F3 d12_30 rfl ?_
  intro _ X10
  refine oN 36 X10 d12_33 rfl (teq (by decide)).2 <| oA 37 X10 d12_36 rfl rfl <| oF 40 X10 (w19 G) Via.refl F1 d12_37 rfl ?_
  intro _ X12
  refine oA 41 X12 d12_40 rfl rfl <| oF 44 X12 (w19 G) Via.refl F4 d12_41 rfl ?_
  intro _ X14
  refine mS 47 0 X14 (rm_eqA_u G F5 F6) (u9 G) all0 d12_44 rfl rfl rfl lr (by decide) all0 ?_
  rintro _ _ _ _ X15 rfl _ _ _
  refine oy 54 X15 d12_47 (by decide) ((if0 _ _).trans (teq pc_k1).1) <| oc 55 (v := 0) X15 d12_54 rfl (by decide) ?_
  exact o_nret (y := (0 : Int32)) (t := .boolean) X15 d12_55 rfl (by decide) (by simp) (by decide) (by decide) (fun _ CC => rfl)
theorem rm_au33 (F0 : fd0 Z h0 pa1 (.int 0)) (F1 : fd1 Z h0 pa1 (.ref pa3)) (F2 : ex0 Z h0 pa2) (F3 : fd0 Z h0 pa2 (.int 0)) (F4 : fd1 Z h0 pa2 (.ref pa4)) (F5 : av0 Z h0 pa3 pk1 4 [.int pi1, .int pi2, .int pi3, .int pi4]) (F6 : av0 Z h0 pa4 pk2 4 [.int 114, .int 111, .int 108, .int 101]) (pc_k0 : (oEq [pi1, pi2, pi3, pi4] [114, 111, 108, 101]) = (0 : Int32)) (ne : NE pa1 pa2) : M12 G 1 0 0 14 #[.ref pa1, .ref pa2] h0 n0 [] [] (Q4 Z  h0) := by
  refine mi B12 ef5 (hEW G) fun s X0 hsf0 n0le => ?_
  have := F0.l
  have := F2.l
  have := F5.l
  have := F6.l
  refine oA 1 X0 d12_0 rfl rfl <| oA 2 X0 d12_1 rfl rfl <| o_acmp 7 (same := false) X0 d12_2 rfl rfl (decide_eq_false (fun q => absurd (Value.ref.inj q) (own_ne (by omega)))) (by decide) (by decide) <| oA 8 X0 d12_7 rfl rfl <| o_instY 11 X0 (w81 G) (Ins.self F2) d12_8 rfl ?_
  intro _ X2
  refine on 14 X2 d12_11 rfl ((if0 _ _).trans (feq (by decide)).1) <| oA 15 X2 d12_14 rfl rfl <| o_castY 18 X2 (w81 G) (Ins.self F2) d12_15 rfl ?_
  intro _ X4
  refine oV 19 (l' := #[rr pa1, rr pa2, rr pa2]) X4 d12_18 rfl rfl rfl <| oG 22 X4 (w25 G) Via.refl ((sg15 G).ext X4.old.2) d12_19 rfl ?_
  intro _ X6
  refine on 25 X6 d12_22 rfl ((if0 _ _).trans (feq (hzc G)).1) <| oA 26 X6 d12_25 rfl rfl <| oF 29 X6 (w26 G) Via.refl F0 d12_26 rfl ?_
  intro _ X8
  refine oA 30 X8 d12_29 rfl rfl <| oF 33 X8 (w26 G) Via.refl F3 d12_30 rfl ?_
  intro _ X10
  refine oN 36 X10 d12_33 rfl (teq (by decide)).2 <| oA 37 X10 d12_36 rfl rfl <| oF 40 X10 (w19 G) Via.refl F1 d12_37 rfl ?_
  intro _ X12
  refine oA 41 X12 d12_40 rfl rfl <| oF 44 X12 (w19 G) Via.refl F4 d12_41 rfl ?_
  intro _ X14
  refine mS 47 0 X14 (rm_eqA_r G F5 F6) (u9 G) all0 d12_44 rfl rfl rfl lr (by decide) all0 ?_
  rintro _ _ _ _ X15 rfl _ _ _
  refine oy 54 X15 d12_47 (by decide) ((if0 _ _).trans (teq pc_k0).1) <| oc 55 (v := 0) X15 d12_54 rfl (by decide) ?_
  exact o_nret (y := (0 : Int32)) (t := .boolean) X15 d12_55 rfl (by decide) (by simp) (by decide) (by decide) (fun _ CC => rfl)
theorem rm_au34 (F0 : ex0 Z h0 pa1) (F1 : fd0 Z h0 pa1 (.int 0)) (F2 : fd1 Z h0 pa1 (.ref pa2)) (F3 : av0 Z h0 pa2 pk1 4 [.int pi1, .int pi2, .int pi3, .int pi4]) (F4 : ex3 Z h0 pa2) (pc_k0 : (oEq [pi1, pi2, pi3, pi4] [114, 111, 108, 101]) = (0 : Int32)) (pc_k1 : (oEq [pi1, pi2, pi3, pi4] [117, 115, 101, 114]) = (0 : Int32)) : M11 G 2 8 152 28 #[.ref pa1] h0 n0 [] [pa1, pa2] (Q13 Z  h0) := by
  have hw := G.1
  refine mi B11 ef3 (hEW G) fun s X0 hsf0 n0le => ?_
  have := F0.l
  have := F3.l
  have sf_pa1 := hsf0 pa1 (by simp)
  have sf_pa2 := hsf0 pa2 (by simp)
  refine oA 1 X0 d11_0 rfl rfl <| o_ldcC 3 (n := 16) (vs := own_bs ([117, 115, 101, 114] : List Int32)) (z := (4 : Int32)) X0 (w0 G) (hws_str hw) (by decide) ⟨by decide, rfl⟩ (by decide) (by decide) d11_1 rfl (by decide) (by decide) (by decide) (by decide) ?_
  intro a1 b1 kb1 _ h1 _ X1 E1 C1 Es1 Cs1 Vs1 As1 SF1
  have lta1 : h1.size > a1 := Es1.lt
  have ltb1 : h1.size > b1 := As1.lt
  have := E1.1
  have Bs1 : av0 Z h1 b1 kb1 4 [.int 117, .int 115, .int 101, .int 114] := As1
  have f3 := C1.safe (own_lt (by omega)) sf_pa1
  have := own_nes (SF1 pa1 f3)
  have f5 := C1.safe (own_lt (by omega)) sf_pa2
  have := own_nes (SF1 pa2 f5)
  have f6 := F1.ext E1
  have f7 := F2.ext E1
  have f8 := F3.ext E1
  have f9 := F0.ext E1
  refine mV 6 0 X1 f9 (rm_au32 G f6 f7 Es1 Cs1 Vs1 f8 Bs1 pc_k1 (by omega)) (u10 G) all0 d11_3 rfl rfl rfl lr (by decide) all0 ?_
  rintro _ _ _ _ X10 rfl K10 _ C10
  refine oy 13 X10 d11_6 (by decide) ((if0 _ _).trans (teq (by decide)).1) <| oA 14 X10 d11_13 rfl rfl <| o_ldcC 16 (n := 16) (vs := own_bs ([114, 111, 108, 101] : List Int32)) (z := (4 : Int32)) X10 (w85 G) (hws_str hw) (by decide) ⟨by decide, rfl⟩ (by decide) (by decide) d11_14 rfl (by decide) (by decide) (by decide) (by decide) ?_
  intro a11 b11 kb11 _ h11 _ X11 E11 C11 Es11 Cs11 Vs11 As11 SF11
  have lta11 : h11.size > a11 := Es11.lt
  have ltb11 : h11.size > b11 := As11.lt
  have := E11.1
  have Bs11 : av0 Z h11 b11 kb11 4 [.int 114, .int 111, .int 108, .int 101] := As11
  have f13 := C11.safe (own_lt (by omega)) (C10.safe (own_lt (by omega)) f3)
  have := own_nes (SF11 pa1 f13)
  have f15 := C11.safe (own_lt (by omega)) (C10.safe (own_lt (by omega)) f5)
  have := own_nes (SF11 pa2 f15)
  have f16 := (f6.k0 K10).ext E11
  have f17 := (f7.k0 K10).ext E11
  have f18 := (f8.k0 K10).ext E11
  have f19 := (f9.keep K10).ext E11
  refine mV 19 0 X11 f19 (rm_au33 G f16 f17 Es11 Cs11 Vs11 f18 Bs11 pc_k0 (by omega)) (u10 G) all0 d11_16 rfl rfl rfl lr (by decide) all0 ?_
  rintro _ _ _ _ X20 rfl K20 _ C20
  refine oy 26 X20 d11_19 (by decide) ((if0 _ _).trans (teq (by decide)).1) <| oA 27 X20 d11_26 rfl rfl <| o_ldcC 29 (n := 20) (vs := own_bs ([103, 114, 111, 117, 112] : List Int32)) (z := (5 : Int32)) X20 (w86 G) (hws_str hw) (by decide) ⟨by decide, rfl⟩ (by decide) (by decide) d11_27 rfl (by decide) (by decide) (by decide) (by decide) ?_
  intro a21 b21 kb21 _ h21 _ X21 E21 C21 Es21 Cs21 Vs21 As21 SF21
  have lta21 : h21.size > a21 := Es21.lt
  have ltb21 : h21.size > b21 := As21.lt
  have := E21.1
  have Bs21 : av0 Z h21 b21 kb21 5 [.int 103, .int 114, .int 111, .int 117, .int 112] := As21
  have f23 := (((Vs1.k0 K10).ext E11).k0 K20).ext E21
  have f24 := (((Bs1.k0 K10).ext E11).k0 K20).ext E21
  have := own_neL f23 f24 Vs21 As21 (by decide)
  have f26 := (Vs11.k0 K20).ext E21
  have f27 := (Bs11.k0 K20).ext E21
  have := own_neL f26 f27 Vs21 As21 (by decide)
  have f29 := C21.safe (own_lt (by omega)) (C20.safe (own_lt (by omega)) f13)
  have := own_nes (SF21 pa1 f29)
  have f31 := C21.safe (own_lt (by omega)) (C20.safe (own_lt (by omega)) f15)
  have := own_nes (SF21 pa2 f31)
  have f32 := (f16.k0 K20).ext E21
  have f33 := (f17.k0 K20).ext E21
  have f34 := (f18.k0 K20).ext E21
  have f35 := (f19.keep K20).ext E21
  refine mV 32 0 X21 f35 (rm_au13 G f32 f33 Es21 Cs21 Vs21 f34 Bs21 (by decide) (by decide) (by omega)) (u10 G) all0 d11_29 rfl rfl rfl lr (by decide) all0 ?_
  rintro _ _ _ _ X36 rfl K36 _ C36
  refine oy 39 X36 d11_32 (by decide) ((if0 _ _).trans (teq (by decide)).1) <| oA 40 X36 d11_39 rfl rfl <| o_ldcC 42 (n := 84) (vs := own_bs ([114, 111, 108, 101, 45, 97, 110, 100, 45, 115, 117, 98, 111, 114, 100, 105, 110, 97, 116, 101, 115] : List Int32)) (z := (21 : Int32)) X36 (w87 G) (hws_str hw) (by decide) ⟨by decide, rfl⟩ (by decide) (by decide) d11_40 rfl (by decide) (by decide) (by decide) (by decide) ?_
  intro a37 b37 kb37 _ h37 _ X37 E37 C37 Es37 Cs37 Vs37 As37 SF37
  have lta37 : h37.size > a37 := Es37.lt
  have ltb37 : h37.size > b37 := As37.lt
  have := E37.1
  have Bs37 : av0 Z h37 b37 kb37 21 [.int 114, .int 111, .int 108, .int 101, .int 45, .int 97, .int 110, .int 100, .int 45, .int 115, .int 117, .int 98, .int 111, .int 114, .int 100, .int 105, .int 110, .int 97, .int 116, .int 101, .int 115] := As37
  have f39 := (f23.k0 K36).ext E37
  have f40 := (f24.k0 K36).ext E37
  have := own_neL f39 f40 Vs37 As37 (by decide)
  have f42 := (f26.k0 K36).ext E37
  have f43 := (f27.k0 K36).ext E37
  have := own_neL f42 f43 Vs37 As37 (by decide)
  have f45 := (Vs21.k0 K36).ext E37
  have f46 := (Bs21.k0 K36).ext E37
  have := own_neL f45 f46 Vs37 As37 (by decide)
  have f48 := C37.safe (own_lt (by omega)) (C36.safe (own_lt (by omega)) f29)
  have := own_nes (SF37 pa1 f48)
  have f50 := C37.safe (own_lt (by omega)) (C36.safe (own_lt (by omega)) f31)
  have := own_nes (SF37 pa2 f50)
  have f51 := (f32.k0 K36).ext E37
  have f52 := (f33.k0 K36).ext E37
  have f53 := (f34.k0 K36).ext E37
  have f54 := (f35.keep K36).ext E37
  refine mV 45 0 X37 f54 (rm_au13 G f51 f52 Es37 Cs37 Vs37 f53 Bs37 (by decide) (by decide) (by omega)) (u10 G) all0 d11_42 rfl rfl rfl lr (by decide) all0 ?_
  rintro _ _ _ _ X55 rfl _ _ _
  refine oy 52 X55 d11_45 (by decide) ((if0 _ _).trans (teq (by decide)).1) <| o_aconstNull 53 X55 d11_52 rfl ?_
  exact oR X55 d11_53 rfl rfl rfl (by decide) (by decide) (fun _ CC => rfl)
theorem rm_au35 (F0 : ex0 Z h0 pa1) (F1 : fd0 Z h0 pa1 (.int pi100)) (F2 : fd1 Z h0 pa1 (.ref pa2)) (F3 : av0 Z h0 pa2 pk1 4 [.int pi1, .int pi2, .int pi3, .int pi4]) (pc_k1 : (oEq [pi1, pi2, pi3, pi4] [117, 115, 101, 114]) = (0 : Int32)) (pc_0 : (0 : Int32) = pi100) (ne : NE su1 pa1) : M12 G 1 0 0 14 #[.ref su1, .ref pa1] h0 n0 [] [] (Q4 Z  h0) := by
  refine mi B12 ef5 (hEW G) fun s X0 hsf0 n0le => ?_
  have := F0.l
  have := F3.l
  have gl_su1 := ltg_su1 G X0.old
  refine oA 1 X0 d12_0 rfl rfl <| oA 2 X0 d12_1 rfl rfl <| o_acmp 7 (same := false) X0 d12_2 rfl rfl (decide_eq_false (fun q => absurd (Value.ref.inj q) (own_ne (by omega)))) (by decide) (by decide) <| oA 8 X0 d12_7 rfl rfl <| o_instY 11 X0 (w81 G) (Ins.self F0) d12_8 rfl ?_
  intro _ X2
  refine on 14 X2 d12_11 rfl ((if0 _ _).trans (feq (by decide)).1) <| oA 15 X2 d12_14 rfl rfl <| o_castY 18 X2 (w81 G) (Ins.self F0) d12_15 rfl ?_
  intro _ X4
  refine oV 19 (l' := #[rr su1, rr pa1, rr pa1]) X4 d12_18 rfl rfl rfl <| oG 22 X4 (w25 G) Via.refl ((sg15 G).ext X4.old.2) d12_19 rfl ?_
  intro _ X6
  refine on 25 X6 d12_22 rfl ((if0 _ _).trans (feq (hzc G)).1) <| oA 26 X6 d12_25 rfl rfl ?_
  have f7 := (C_su1 G).ext X6.old.2
  refine oF 29 X6 (w26 G) Via.refl f7 d12_26 rfl ?_
  intro _ X9
  refine oA 30 X9 d12_29 rfl rfl <| oF 33 X9 (w26 G) Via.refl F1 d12_30 rfl ?_
  intro _ X11
  refine oN 36 X11 d12_33 rfl (teq pc_0).2 <| oA 37 X11 d12_36 rfl rfl ?_
  have f12 := (F_su1 G).ext X11.old.2
  refine oF 40 X11 (w19 G) Via.refl f12 d12_37 rfl ?_
  intro _ X14
  refine oA 41 X14 d12_40 rfl rfl <| oF 44 X14 (w19 G) Via.refl F2 d12_41 rfl ?_
  intro _ X16
  refine mS 47 0 X16 (rm_eqB_u G F3) (u9 G) all0 d12_44 rfl rfl rfl lr (by decide) all0 ?_
  rintro _ _ _ _ X17 rfl _ _ _
  refine oy 54 X17 d12_47 (by decide) ((if0 _ _).trans (teq pc_k1).1) <| oc 55 (v := 0) X17 d12_54 rfl (by decide) ?_
  exact o_nret (y := (0 : Int32)) (t := .boolean) X17 d12_55 rfl (by decide) (by simp) (by decide) (by decide) (fun _ CC => rfl)
theorem rm_au36 (F0 : ex0 Z h0 pa1) (F1 : fd0 Z h0 pa1 (.int pi100)) (F2 : fd1 Z h0 pa1 (.ref pa2)) (F3 : av0 Z h0 pa2 pk1 4 [.int pi1, .int pi2, .int pi3, .int pi4]) (pc_k0 : (oEq [pi1, pi2, pi3, pi4] [114, 111, 108, 101]) = (0 : Int32)) (pc_0 : (0 : Int32) = pi100) (ne : NE su2 pa1) : M12 G 1 0 0 14 #[.ref su2, .ref pa1] h0 n0 [] [] (Q4 Z  h0) := by
  refine mi B12 ef5 (hEW G) fun s X0 hsf0 n0le => ?_
  have := F0.l
  have := F3.l
  have gl_su2 := ltg_su2 G X0.old
  refine oA 1 X0 d12_0 rfl rfl <| oA 2 X0 d12_1 rfl rfl <| o_acmp 7 (same := false) X0 d12_2 rfl rfl (decide_eq_false (fun q => absurd (Value.ref.inj q) (own_ne (by omega)))) (by decide) (by decide) <| oA 8 X0 d12_7 rfl rfl <| o_instY 11 X0 (w81 G) (Ins.self F0) d12_8 rfl ?_
  intro _ X2
  refine on 14 X2 d12_11 rfl ((if0 _ _).trans (feq (by decide)).1) <| oA 15 X2 d12_14 rfl rfl <| o_castY 18 X2 (w81 G) (Ins.self F0) d12_15 rfl ?_
  intro _ X4
  refine oV 19 (l' := #[rr su2, rr pa1, rr pa1]) X4 d12_18 rfl rfl rfl <| oG 22 X4 (w25 G) Via.refl ((sg15 G).ext X4.old.2) d12_19 rfl ?_
  intro _ X6
  refine on 25 X6 d12_22 rfl ((if0 _ _).trans (feq (hzc G)).1) <| oA 26 X6 d12_25 rfl rfl ?_
  have f7 := (C_su2 G).ext X6.old.2
  refine oF 29 X6 (w26 G) Via.refl f7 d12_26 rfl ?_
  intro _ X9
  refine oA 30 X9 d12_29 rfl rfl <| oF 33 X9 (w26 G) Via.refl F1 d12_30 rfl ?_
  intro _ X11
  refine oN 36 X11 d12_33 rfl (teq pc_0).2 <| oA 37 X11 d12_36 rfl rfl ?_
  have f12 := (F_su2 G).ext X11.old.2
  refine oF 40 X11 (w19 G) Via.refl f12 d12_37 rfl ?_
  intro _ X14
  refine oA 41 X14 d12_40 rfl rfl <| oF 44 X14 (w19 G) Via.refl F2 d12_41 rfl ?_
  intro _ X16
  refine mS 47 0 X16 (rm_eqB_r G F3) (u9 G) all0 d12_44 rfl rfl rfl lr (by decide) all0 ?_
  rintro _ _ _ _ X17 rfl _ _ _
  refine oy 54 X17 d12_47 (by decide) ((if0 _ _).trans (teq pc_k0).1) <| oc 55 (v := 0) X17 d12_54 rfl (by decide) ?_
  exact o_nret (y := (0 : Int32)) (t := .boolean) X17 d12_55 rfl (by decide) (by simp) (by decide) (by decide) (fun _ CC => rfl)
theorem rm_au37 (F0 : ex0 Z h0 pa1) (F1 : fd0 Z h0 pa1 (.int 0)) (F2 : fd1 Z h0 pa1 (.ref pa2)) (F3 : av0 Z h0 pa2 pk1 4 [.int pi1, .int pi2, .int pi3, .int pi4]) (pc_k0 : (oEq [pi1, pi2, pi3, pi4] [114, 111, 108, 101]) = (0 : Int32)) (pc_k1 : (oEq [pi1, pi2, pi3, pi4] [117, 115, 101, 114]) = (0 : Int32)) (ne : NE su1 pa1 ∧ NE su2 pa1 ∧ NE su3 pa1 ∧ NE su4 pa1) : M13 G 2 1 4 28 #[.ref pa1] h0 n0 [] [] (Q15 Z oem h0) := by
  refine mi B13 ef7 (hEW G) fun s X0 hsf0 n0le => ?_
  have := F0.l
  have := F3.l
  have gl_su1 := ltg_su1 G X0.old
  have gl_su2 := ltg_su2 G X0.old
  have gl_su3 := ltg_su3 G X0.old
  have gl_su4 := ltg_su4 G X0.old
  refine mS 3 0 X0 (rm_au15 G ) (u12 G) all0 d13_0 rfl rfl rfl lr (by decide) all0 ?_
  rintro _ _ _ _ X1 ⟨xa1_2, rfl, q3, _, _⟩ K1 _ _
  refine oV 4 (l' := #[rr pa1, rr xa1_2, uu, uu, uu]) X1 d13_3 rfl rfl rfl <| oA 5 X1 d13_4 rfl rfl <| oL 6 X1 q3 d13_5 rfl <| oT 7 (l' := #[rr pa1, rr xa1_2, ii 4, uu, uu]) X1 d13_6 rfl rfl <| oc 8 (v := 0) X1 d13_7 rfl (by decide) <| oT 9 (l' := #[rr pa1, rr xa1_2, ii 4, ii 0, uu]) X1 d13_8 rfl rfl <| oI 10 X1 d13_9 rfl rfl <| oI 11 X1 d13_10 rfl rfl <| oN 14 X1 d13_11 rfl (tlt (by decide)).2.1 <| oA 15 X1 d13_14 rfl rfl <| oI 16 X1 d13_15 rfl rfl <| o_aaload 17 (v := (.ref ku1)) X1 q3 rfl ⟨by decide, by decide⟩ rfl d13_16 rfl ?_
  refine oU 19 (l' := #[rr pa1, rr xa1_2, ii 4, ii 0, rr ku1]) X1 d13_17 rfl rfl rfl <| oa 21 X1 d13_19 rfl rfl ?_
  have f6 := (F_ku1 G).ext X1.old.2
  refine oF 24 X1 (w111 G) Via.refl f6 d13_21 rfl ?_
  intro _ X8
  refine oA 25 X8 d13_24 rfl rfl ?_
  have f9 := F0.keep K1
  have f10 := F1.k0 K1
  have f11 := F2.k0 K1
  have f12 := F3.k0 K1
  have f13 := (sg10 G).ext X8.old.2
  refine mV 28 0 X8 f13 (rm_au35 G f9 f10 f11 f12 pc_k1 (by decide) (by omega)) (u13 G) all0 d13_25 rfl rfl rfl lr (by decide) all0 ?_
  rintro _ _ _ _ X14 rfl K14 _ _
  refine oy 37 X14 d13_28 (by decide) ((if0 _ _).trans (teq (by decide)).1) <| oJ 40 1 #[rr pa1, rr xa1_2, ii 4, ii 1, rr ku1] X14 d13_37 rfl rfl (by decide) rfl <| og 9 X14 d13_40 (by decide) <| oI 10 X14 d13_9 rfl rfl <| oI 11 X14 d13_10 rfl rfl <| oN 14 X14 d13_11 rfl (tlt (by decide)).2.1 <| oA 15 X14 d13_14 rfl rfl <| oI 16 X14 d13_15 rfl rfl ?_
  have f15 := q3.k0 K14
  refine o_aaload 17 (v := (.ref ku2)) X14 f15 rfl ⟨by decide, by decide⟩ rfl d13_16 rfl <| oU 19 (l' := #[rr pa1, rr xa1_2, ii 4, ii 1, rr ku2]) X14 d13_17 rfl rfl rfl <| oa 21 X14 d13_19 rfl rfl ?_
  have f16 := (F_ku2 G).ext X14.old.2
  refine oF 24 X14 (w111 G) Via.refl f16 d13_21 rfl ?_
  intro _ X18
  refine oA 25 X18 d13_24 rfl rfl ?_
  have f19 := f9.keep K14
  have f20 := f10.k0 K14
  have f21 := f11.k0 K14
  have f22 := f12.k0 K14
  have f23 := (sg11 G).ext X18.old.2
  refine mV 28 0 X18 f23 (rm_au36 G f19 f20 f21 f22 pc_k0 (by decide) (by omega)) (u13 G) all0 d13_25 rfl rfl rfl lr (by decide) all0 ?_
  rintro _ _ _ _ X24 rfl K24 _ _
  refine oy 37 X24 d13_28 (by decide) ((if0 _ _).trans (teq (by decide)).1) <| oJ 40 2 #[rr pa1, rr xa1_2, ii 4, ii 2, rr ku2] X24 d13_37 rfl rfl (by decide) rfl <| og 9 X24 d13_40 (by decide) <| oI 10 X24 d13_9 rfl rfl <| oI 11 X24 d13_10 rfl rfl <| oN 14 X24 d13_11 rfl (tlt (by decide)).2.1 <| oA 15 X24 d13_14 rfl rfl <| oI 16 X24 d13_15 rfl rfl ?_
  have f25 := f15.k0 K24
  refine o_aaload 17 (v := (.ref ku3)) X24 f25 rfl ⟨by decide, by decide⟩ rfl d13_16 rfl <| oU 19 (l' := #[rr pa1, rr xa1_2, ii 4, ii 2, rr ku3]) X24 d13_17 rfl rfl rfl <| oa 21 X24 d13_19 rfl rfl ?_
  have f26 := (F_ku3 G).ext X24.old.2
  refine oF 24 X24 (w111 G) Via.refl f26 d13_21 rfl ?_
  intro _ X28
  refine oA 25 X28 d13_24 rfl rfl ?_
  have f29 := (C_su3 G).ext X28.old.2
  have f30 := (F_su3 G).ext X28.old.2
  have f31 := f19.keep K24
  have f32 := f20.k0 K24
  have f33 := f21.k0 K24
  have f34 := (sg2 G).ext X28.old.2
  have f35 := f22.k0 K24
  have f36 := (sg12 G).ext X28.old.2
  refine mV 28 0 X28 f36 (rm_au13 G f29 f30 f31 f32 f33 f34 f35 (by decide) (by decide) (by omega)) (u13 G) all0 d13_25 rfl rfl rfl lr (by decide) all0 ?_
  rintro _ _ _ _ X37 rfl K37 _ _
  refine oy 37 X37 d13_28 (by decide) ((if0 _ _).trans (teq (by decide)).1) <| oJ 40 3 #[rr pa1, rr xa1_2, ii 4, ii 3, rr ku3] X37 d13_37 rfl rfl (by decide) rfl <| og 9 X37 d13_40 (by decide) <| oI 10 X37 d13_9 rfl rfl <| oI 11 X37 d13_10 rfl rfl <| oN 14 X37 d13_11 rfl (tlt (by decide)).2.1 <| oA 15 X37 d13_14 rfl rfl <| oI 16 X37 d13_15 rfl rfl ?_
  have f38 := f25.k0 K37
  refine o_aaload 17 (v := (.ref ku4)) X37 f38 rfl ⟨by decide, by decide⟩ rfl d13_16 rfl <| oU 19 (l' := #[rr pa1, rr xa1_2, ii 4, ii 3, rr ku4]) X37 d13_17 rfl rfl rfl <| oa 21 X37 d13_19 rfl rfl ?_
  have f39 := (F_ku4 G).ext X37.old.2
  refine oF 24 X37 (w111 G) Via.refl f39 d13_21 rfl ?_
  intro _ X41
  refine oA 25 X41 d13_24 rfl rfl ?_
  have f42 := (C_su4 G).ext X41.old.2
  have f43 := (F_su4 G).ext X41.old.2
  have f44 := f31.keep K37
  have f45 := f32.k0 K37
  have f46 := f33.k0 K37
  have f47 := (sg3 G).ext X41.old.2
  have f48 := f35.k0 K37
  have f49 := (sg13 G).ext X41.old.2
  refine mV 28 0 X41 f49 (rm_au13 G f42 f43 f44 f45 f46 f47 f48 (by decide) (by decide) (by omega)) (u13 G) all0 d13_25 rfl rfl rfl lr (by decide) all0 ?_
  rintro _ _ _ _ X50 rfl _ _ _
  refine oy 37 X50 d13_28 (by decide) ((if0 _ _).trans (teq (by decide)).1) <| oJ 40 4 #[rr pa1, rr xa1_2, ii 4, ii 4, rr ku4] X50 d13_37 rfl rfl (by decide) rfl <| og 9 X50 d13_40 (by decide) <| oI 10 X50 d13_9 rfl rfl <| oI 11 X50 d13_10 rfl rfl <| oY 43 X50 d13_11 (by decide) (flt (by decide)).2.1 <| mS 46 0 X50 (rm_au16 G ) (u14 G) all0 d13_43 rfl rfl rfl lr (by decide) all0 ?_
  rintro _ _ _ _ X51 rfl _ _ _
  exact oR X51 d13_46 rfl rfl rfl (by decide) (by decide) (fun _ CC => rfl)
theorem rm_au38 (F0 : fd0 Z h0 pa1 (.int 0)) (F1 : fd1 Z h0 pa1 (.ref pa3)) (F2 : ex0 Z h0 pa2) (F3 : fd0 Z h0 pa2 (.int 0)) (F4 : fd1 Z h0 pa2 (.ref pa4)) (F5 : av0 Z h0 pa3 pk1 4 [.int pi1, .int pi2, .int pi3, .int pi4]) (F6 : av0 Z h0 pa4 pk2 4 [.int 114, .int 111, .int 108, .int 101]) (pc_k0 : ¬ (oEq [pi1, pi2, pi3, pi4] [114, 111, 108, 101]) = (0 : Int32)) (ne : NE pa1 pa2) : M12 G 1 0 0 14 #[.ref pa1, .ref pa2] h0 n0 [] [] (Q3 Z  h0) := by
  refine mi B12 ef5 (hEW G) fun s X0 hsf0 n0le => ?_
  have := F0.l
  have := F2.l
  have := F5.l
  have := F6.l
  refine oA 1 X0 d12_0 rfl rfl <| oA 2 X0 d12_1 rfl rfl <| o_acmp 7 (same := false) X0 d12_2 rfl rfl (decide_eq_false (fun q => absurd (Value.ref.inj q) (own_ne (by omega)))) (by decide) (by decide) <| oA 8 X0 d12_7 rfl rfl <| o_instY 11 X0 (w81 G) (Ins.self F2) d12_8 rfl ?_
  intro _ X2
  refine on 14 X2 d12_11 rfl ((if0 _ _).trans (feq (by decide)).1) <| oA 15 X2 d12_14 rfl rfl <| o_castY 18 X2 (w81 G) (Ins.self F2) d12_15 rfl ?_
  intro _ X4
  refine oV 19 (l' := #[rr pa1, rr pa2, rr pa2]) X4 d12_18 rfl rfl rfl <| oG 22 X4 (w25 G) Via.refl ((sg15 G).ext X4.old.2) d12_19 rfl ?_
  intro _ X6
  refine on 25 X6 d12_22 rfl ((if0 _ _).trans (feq (hzc G)).1) <| oA 26 X6 d12_25 rfl rfl <| oF 29 X6 (w26 G) Via.refl F0 d12_26 rfl ?_
  intro _ X8
  refine oA 30 X8 d12_29 rfl rfl <| oF 33 X8 (w26 G) Via.refl F3 d12_30 rfl ?_
  intro _ X10
  refine oN 36 X10 d12_33 rfl (teq (by decide)).2 <| oA 37 X10 d12_36 rfl rfl <| oF 40 X10 (w19 G) Via.refl F1 d12_37 rfl ?_
  intro _ X12
  refine oA 41 X12 d12_40 rfl rfl <| oF 44 X12 (w19 G) Via.refl F4 d12_41 rfl ?_
  intro _ X14
  refine mS 47 0 X14 (rm_eqA_r G F5 F6) (u9 G) all0 d12_44 rfl rfl rfl lr (by decide) all0 ?_
  rintro _ _ _ _ X15 rfl _ _ _
  refine on 50 X15 d12_47 rfl ((if0 _ _).trans (feq pc_k0).1) <| oc 51 (v := 1) X15 d12_50 rfl (by decide) <| og 55 X15 d12_51 (by decide) ?_
  exact o_nret (y := (1 : Int32)) (t := .boolean) X15 d12_55 rfl (by decide) (by simp) (by decide) (by decide) (fun _ CC => rfl)
theorem rm_au39 (F0 : ex0 Z h0 pa1) (F1 : fd0 Z h0 pa1 (.int 0)) (F2 : fd1 Z h0 pa1 (.ref pa2)) (F3 : av0 Z h0 pa2 pk1 4 [.int pi1, .int pi2, .int pi3, .int pi4]) (F4 : ex3 Z h0 pa2) (pc_k0 : ¬ (oEq [pi1, pi2, pi3, pi4] [114, 111, 108, 101]) = (0 : Int32)) (pc_k1 : (oEq [pi1, pi2, pi3, pi4] [117, 115, 101, 114]) = (0 : Int32)) : M11 G 2 4 40 28 #[.ref pa1] h0 n0 [] [pa1, pa2] (Q15 Z ku2 h0) := by
  have hw := G.1
  refine mi B11 ef3 (hEW G) fun s X0 hsf0 n0le => ?_
  have := F0.l
  have := F3.l
  have sf_pa1 := hsf0 pa1 (by simp)
  have sf_pa2 := hsf0 pa2 (by simp)
  refine oA 1 X0 d11_0 rfl rfl <| o_ldcC 3 (n := 16) (vs := own_bs ([117, 115, 101, 114] : List Int32)) (z := (4 : Int32)) X0 (w0 G) (hws_str hw) (by decide) ⟨by decide, rfl⟩ (by decide) (by decide) d11_1 rfl (by decide) (by decide) (by decide) (by decide) ?_
  intro a1 b1 kb1 _ h1 _ X1 E1 C1 Es1 Cs1 Vs1 As1 SF1
  have lta1 : h1.size > a1 := Es1.lt
  have ltb1 : h1.size > b1 := As1.lt
  have := E1.1
  have Bs1 : av0 Z h1 b1 kb1 4 [.int 117, .int 115, .int 101, .int 114] := As1
  have f3 := C1.safe (own_lt (by omega)) sf_pa1
  have := own_nes (SF1 pa1 f3)
  have f5 := C1.safe (own_lt (by omega)) sf_pa2
  have := own_nes (SF1 pa2 f5)
  have f6 := F1.ext E1
  have f7 := F2.ext E1
  have f8 := F3.ext E1
  have f9 := F0.ext E1
  refine mV 6 0 X1 f9 (rm_au32 G f6 f7 Es1 Cs1 Vs1 f8 Bs1 pc_k1 (by omega)) (u10 G) all0 d11_3 rfl rfl rfl lr (by decide) all0 ?_
  rintro _ _ _ _ X10 rfl K10 _ C10
  refine oy 13 X10 d11_6 (by decide) ((if0 _ _).trans (teq (by decide)).1) <| oA 14 X10 d11_13 rfl rfl <| o_ldcC 16 (n := 16) (vs := own_bs ([114, 111, 108, 101] : List Int32)) (z := (4 : Int32)) X10 (w85 G) (hws_str hw) (by decide) ⟨by decide, rfl⟩ (by decide) (by decide) d11_14 rfl (by decide) (by decide) (by decide) (by decide) ?_
  intro a11 b11 kb11 _ h11 _ X11 E11 C11 Es11 Cs11 Vs11 As11 SF11
  have lta11 : h11.size > a11 := Es11.lt
  have ltb11 : h11.size > b11 := As11.lt
  have := E11.1
  have Bs11 : av0 Z h11 b11 kb11 4 [.int 114, .int 111, .int 108, .int 101] := As11
  have f13 := C11.safe (own_lt (by omega)) (C10.safe (own_lt (by omega)) f3)
  have := own_nes (SF11 pa1 f13)
  have f15 := C11.safe (own_lt (by omega)) (C10.safe (own_lt (by omega)) f5)
  have := own_nes (SF11 pa2 f15)
  have f16 := (f6.k0 K10).ext E11
  have f17 := (f7.k0 K10).ext E11
  have f18 := (f8.k0 K10).ext E11
  have f19 := (f9.keep K10).ext E11
  refine mV 19 0 X11 f19 (rm_au38 G f16 f17 Es11 Cs11 Vs11 f18 Bs11 pc_k0 (by omega)) (u10 G) all0 d11_16 rfl rfl rfl lr (by decide) all0 ?_
  rintro _ _ _ _ X20 rfl _ _ _
  refine on 22 X20 d11_19 rfl ((if0 _ _).trans (feq (by decide)).1) <| oG 25 X20 (w146 G) Via.refl ((sg18 G).ext X20.old.2) d11_22 rfl ?_
  intro _ X22
  exact oR X22 d11_25 rfl rfl rfl (by decide) (by decide) (fun _ CC => rfl)
theorem rm_au40 (F0 : ex0 Z h0 pa1) (F1 : fd0 Z h0 pa1 (.int pi100)) (F2 : fd1 Z h0 pa1 (.ref pa2)) (F3 : av0 Z h0 pa2 pk1 4 [.int pi1, .int pi2, .int pi3, .int pi4]) (pc_k0 : ¬ (oEq [pi1, pi2, pi3, pi4] [114, 111, 108, 101]) = (0 : Int32)) (pc_0 : (0 : Int32) = pi100) (ne : NE su2 pa1) : M12 G 1 0 0 14 #[.ref su2, .ref pa1] h0 n0 [] [] (Q3 Z  h0) := by
  refine mi B12 ef5 (hEW G) fun s X0 hsf0 n0le => ?_
  have := F0.l
  have := F3.l
  have gl_su2 := ltg_su2 G X0.old
  refine oA 1 X0 d12_0 rfl rfl <| oA 2 X0 d12_1 rfl rfl <| o_acmp 7 (same := false) X0 d12_2 rfl rfl (decide_eq_false (fun q => absurd (Value.ref.inj q) (own_ne (by omega)))) (by decide) (by decide) <| oA 8 X0 d12_7 rfl rfl <| o_instY 11 X0 (w81 G) (Ins.self F0) d12_8 rfl ?_
  intro _ X2
  refine on 14 X2 d12_11 rfl ((if0 _ _).trans (feq (by decide)).1) <| oA 15 X2 d12_14 rfl rfl <| o_castY 18 X2 (w81 G) (Ins.self F0) d12_15 rfl ?_
  intro _ X4
  refine oV 19 (l' := #[rr su2, rr pa1, rr pa1]) X4 d12_18 rfl rfl rfl <| oG 22 X4 (w25 G) Via.refl ((sg15 G).ext X4.old.2) d12_19 rfl ?_
  intro _ X6
  refine on 25 X6 d12_22 rfl ((if0 _ _).trans (feq (hzc G)).1) <| oA 26 X6 d12_25 rfl rfl ?_
  have f7 := (C_su2 G).ext X6.old.2
  refine oF 29 X6 (w26 G) Via.refl f7 d12_26 rfl ?_
  intro _ X9
  refine oA 30 X9 d12_29 rfl rfl <| oF 33 X9 (w26 G) Via.refl F1 d12_30 rfl ?_
  intro _ X11
  refine oN 36 X11 d12_33 rfl (teq pc_0).2 <| oA 37 X11 d12_36 rfl rfl ?_
  have f12 := (F_su2 G).ext X11.old.2
  refine oF 40 X11 (w19 G) Via.refl f12 d12_37 rfl ?_
  intro _ X14
  refine oA 41 X14 d12_40 rfl rfl <| oF 44 X14 (w19 G) Via.refl F2 d12_41 rfl ?_
  intro _ X16
  refine mS 47 0 X16 (rm_eqB_r G F3) (u9 G) all0 d12_44 rfl rfl rfl lr (by decide) all0 ?_
  rintro _ _ _ _ X17 rfl _ _ _
  refine on 50 X17 d12_47 rfl ((if0 _ _).trans (feq pc_k0).1) <| oc 51 (v := 1) X17 d12_50 rfl (by decide) <| og 55 X17 d12_51 (by decide) ?_
  exact o_nret (y := (1 : Int32)) (t := .boolean) X17 d12_55 rfl (by decide) (by simp) (by decide) (by decide) (fun _ CC => rfl)
theorem rm_au41  : M23 G 0 0 0 0 #[.ref ku2] h0 n0 [] [] (Q15 Z ku2 h0) := by
  refine mi B23 ef3 (hEW G) fun s X0 hsf0 n0le => ?_
  refine oA 1 X0 d23_0 rfl rfl <| ifnonnullYesJ 12 X0 d23_1 (by decide) <| oA 13 X0 d23_12 rfl rfl ?_
  exact oR X0 d23_13 rfl rfl rfl (by decide) (by decide) (fun _ CC => rfl)
def Q24 (Z : State) (b1 b2 : Addr) (h0 : Heap) (v : Option Value) (h : Heap) (vm : Vm) : Prop := v = none ∧ ex4 Z h b1 ∧ fd2 Z h b1 (.ref b2)
theorem rm_au42 (F0 : ex4 Z h0 pa1) (F1 : fd2 Z h0 pa1 .null) (ne : n0 ≤ pa1) : M24 G 1 0 0 12 #[.ref pa1, .ref ku2] h0 n0 [pa1] [] (Q24 Z pa1 ku2 h0) := by
  refine mi B24 ef11 (hEW G) fun s X0 hsf0 n0le => ?_
  have := F0.l
  refine oA 1 X0 d24_0 rfl rfl <| o_initO 4 (W := 0) X0 (w140 G) (w61 G) (w62 G) rfl (by decide) (Nat.le_of_eq rfl) (by decide) d24_1 rfl ?_
  intro _ X2
  refine oA 5 X2 d24_4 rfl rfl <| oA 6 X2 d24_5 rfl rfl <| oP 9 (v' := (.ref ku2)) X2 (w124 G) Via.refl F1 F0 (Or.inr ⟨(w125 G), rfl, rfl⟩) (w131 G) fd_2 rfl rfl d24_6 rfl (by omega) (Or.inl (by simp)) (sx X2 F0 nc1) ?_
  intro _ _ X3 W3 _
  have := W3.size
  have f4 := F1.same W3
  have f5 := F0.wr W3
  exact oz X3 d24_9 rfl (by decide) (by decide) (fun _ CC => ⟨rfl, f5, f4⟩)
def Q25 (Z : State) (b1 : Addr) (h0 : Heap) (v : Option Value) (h : Heap) (vm : Vm) : Prop := ∃ (xa1 : Addr), v = some (.ref xa1) ∧ ex4 Z h xa1 ∧ fd2 Z h xa1 (.ref b1) ∧ h0.size ≤ xa1 ∧ h.size > xa1
theorem rm_au43  : M22 G 2 1 1 26 #[.ref ku2] h0 n0 [] [] (Q25 Z ku2 h0) := by
  refine mi B22 ef3 (hEW G) fun s X0 hsf0 n0le => ?_
  refine o_new 3 X0 (w130 G) (w131 G) (w116 G) d22_0 rfl (by decide) (by decide) ?_
  intro _ h1 b1 X1 _ _ _ A1 D1 _ _ _
  have f2 : fd2 Z h1 b1 .null := D1 (Or.inr (w125 G)) fd_2
  refine oD 4 X1 d22_3 rfl rfl <| oA 5 X1 d22_4 rfl rfl <| mS 8 2 X1 (rm_au41 G ) (u22 G) all0 d22_5 rfl rfl rfl lr (by decide) all0 ?_
  rintro _ _ _ _ X3 rfl K3 _ _
  have f4 := A1.keep K3
  have f5 := f2.k0 K3
  refine mP 11 1 X3 (rm_au42 G f4 f5 (by omega)) (u23 G) all0 d22_8 rfl rfl rfl lr (by decide) (aR (by omega) all0) ?_
  rintro _ _ _ _ X6 ⟨rfl, q7, q8⟩ _ _ _
  exact oR X6 d22_11 rfl rfl rfl (by decide) (by decide) (fun _ CC => ⟨b1, rfl, q7, q8, by omega⟩)
theorem rm_au44 (F0 : ex0 Z h0 pa1) (F1 : fd0 Z h0 pa1 (.int 0)) (F2 : fd1 Z h0 pa1 (.ref pa2)) (F3 : av0 Z h0 pa2 pk1 4 [.int pi1, .int pi2, .int pi3, .int pi4]) (pc_k0 : ¬ (oEq [pi1, pi2, pi3, pi4] [114, 111, 108, 101]) = (0 : Int32)) (pc_k1 : (oEq [pi1, pi2, pi3, pi4] [117, 115, 101, 114]) = (0 : Int32)) (ne : NE su1 pa1 ∧ NE su2 pa1) : M13 G 3 2 5 38 #[.ref pa1] h0 n0 [] [] (Q25 Z ku2 h0) := by
  refine mi B13 ef7 (hEW G) fun s X0 hsf0 n0le => ?_
  have := F0.l
  have := F3.l
  have gl_su1 := ltg_su1 G X0.old
  have gl_su2 := ltg_su2 G X0.old
  refine mS 3 0 X0 (rm_au15 G ) (u12 G) all0 d13_0 rfl rfl rfl lr (by decide) all0 ?_
  rintro _ _ _ _ X1 ⟨xa1_2, rfl, q3, _, _⟩ K1 _ _
  refine oV 4 (l' := #[rr pa1, rr xa1_2, uu, uu, uu]) X1 d13_3 rfl rfl rfl <| oA 5 X1 d13_4 rfl rfl <| oL 6 X1 q3 d13_5 rfl <| oT 7 (l' := #[rr pa1, rr xa1_2, ii 4, uu, uu]) X1 d13_6 rfl rfl <| oc 8 (v := 0) X1 d13_7 rfl (by decide) <| oT 9 (l' := #[rr pa1, rr xa1_2, ii 4, ii 0, uu]) X1 d13_8 rfl rfl <| oI 10 X1 d13_9 rfl rfl <| oI 11 X1 d13_10 rfl rfl <| oN 14 X1 d13_11 rfl (tlt (by decide)).2.1 <| oA 15 X1 d13_14 rfl rfl <| oI 16 X1 d13_15 rfl rfl <| o_aaload 17 (v := (.ref ku1)) X1 q3 rfl ⟨by decide, by decide⟩ rfl d13_16 rfl ?_
  refine oU 19 (l' := #[rr pa1, rr xa1_2, ii 4, ii 0, rr ku1]) X1 d13_17 rfl rfl rfl <| oa 21 X1 d13_19 rfl rfl ?_
  have f6 := (F_ku1 G).ext X1.old.2
  refine oF 24 X1 (w111 G) Via.refl f6 d13_21 rfl ?_
  intro _ X8
  refine oA 25 X8 d13_24 rfl rfl ?_
  have f9 := F0.keep K1
  have f10 := F1.k0 K1
  have f11 := F2.k0 K1
  have f12 := F3.k0 K1
  have f13 := (sg10 G).ext X8.old.2
  refine mV 28 0 X8 f13 (rm_au35 G f9 f10 f11 f12 pc_k1 (by decide) (by omega)) (u13 G) all0 d13_25 rfl rfl rfl lr (by decide) all0 ?_
  rintro _ _ _ _ X14 rfl K14 _ _
  refine oy 37 X14 d13_28 (by decide) ((if0 _ _).trans (teq (by decide)).1) <| oJ 40 1 #[rr pa1, rr xa1_2, ii 4, ii 1, rr ku1] X14 d13_37 rfl rfl (by decide) rfl <| og 9 X14 d13_40 (by decide) <| oI 10 X14 d13_9 rfl rfl <| oI 11 X14 d13_10 rfl rfl <| oN 14 X14 d13_11 rfl (tlt (by decide)).2.1 <| oA 15 X14 d13_14 rfl rfl <| oI 16 X14 d13_15 rfl rfl ?_
  have f15 := q3.k0 K14
  refine o_aaload 17 (v := (.ref ku2)) X14 f15 rfl ⟨by decide, by decide⟩ rfl d13_16 rfl <| oU 19 (l' := #[rr pa1, rr xa1_2, ii 4, ii 1, rr ku2]) X14 d13_17 rfl rfl rfl <| oa 21 X14 d13_19 rfl rfl ?_
  have f16 := (F_ku2 G).ext X14.old.2
  refine oF 24 X14 (w111 G) Via.refl f16 d13_21 rfl ?_
  intro _ X18
  refine oA 25 X18 d13_24 rfl rfl ?_
  have f19 := f9.keep K14
  have f20 := f10.k0 K14
  have f21 := f11.k0 K14
  have f22 := f12.k0 K14
  have f23 := (sg11 G).ext X18.old.2
  refine mV 28 0 X18 f23 (rm_au40 G f19 f20 f21 f22 pc_k0 (by decide) (by omega)) (u13 G) all0 d13_25 rfl rfl rfl lr (by decide) all0 ?_
  rintro _ _ _ _ X24 rfl _ _ _
  refine on 31 X24 d13_28 rfl ((if0 _ _).trans (feq (by decide)).1) <| oa 33 X24 d13_31 rfl rfl <| mS 36 0 X24 (rm_au43 G ) (u24 G) all0 d13_33 rfl rfl rfl lr (by decide) all0 ?_
  rintro _ _ _ _ X25 ⟨xa1_26, rfl, q27, q28, _⟩ _ _ _
  exact oR X25 d13_36 rfl rfl rfl (by decide) (by decide) (fun _ CC => ⟨xa1_26, rfl, q27, q28, by omega⟩)
theorem rm_au45 (F0 : fd2 Z h0 pa1 (.ref ku2)) : M16 G 0 0 0 0 #[.ref pa1, .null] h0 n0 [] [] (Q15 Z ku2 h0) := by
  refine mi B16 ef10 (hEW G) fun s X0 hsf0 n0le => ?_
  have := F0.l
  refine oA 1 X0 d16_0 rfl rfl <| oF 4 X0 (w124 G) Via.refl F0 d16_1 rfl ?_
  intro _ X2
  refine o_ifnullNo 7 X2 d16_4 rfl <| oA 8 X2 d16_7 rfl rfl <| oF 11 X2 (w124 G) Via.refl F0 d16_8 rfl ?_
  intro _ X4
  refine og 15 X4 d16_11 (by decide) ?_
  exact oR X4 d16_15 rfl rfl rfl (by decide) (by decide) (fun _ CC => rfl)
theorem rm_au46 (F0 : fd0 Z h0 pa1 (.int 0)) (F1 : fd1 Z h0 pa1 (.ref pa3)) (F2 : ex0 Z h0 pa2) (F3 : fd0 Z h0 pa2 (.int 0)) (F4 : fd1 Z h0 pa2 (.ref pa4)) (F5 : av0 Z h0 pa3 pk1 4 [.int pi1, .int pi2, .int pi3, .int pi4]) (F6 : av0 Z h0 pa4 pk2 4 [.int 117, .int 115, .int 101, .int 114]) (pc_k0 : ¬ (oEq [pi1, pi2, pi3, pi4] [117, 115, 101, 114]) = (0 : Int32)) (ne : NE pa1 pa2) : M12 G 1 0 0 14 #[.ref pa1, .ref pa2] h0 n0 [] [] (Q3 Z  h0) := by
  refine mi B12 ef5 (hEW G) fun s X0 hsf0 n0le => ?_
  have := F0.l
  have := F2.l
  have := F5.l
  have := F6.l
  refine oA 1 X0 d12_0 rfl rfl <| oA 2 X0 d12_1 rfl rfl <| o_acmp 7 (same := false) X0 d12_2 rfl rfl (decide_eq_false (fun q => absurd (Value.ref.inj q) (own_ne (by omega)))) (by decide) (by decide) <| oA 8 X0 d12_7 rfl rfl <| o_instY 11 X0 (w81 G) (Ins.self F2) d12_8 rfl ?_
  intro _ X2
  refine on 14 X2 d12_11 rfl ((if0 _ _).trans (feq (by decide)).1) <| oA 15 X2 d12_14 rfl rfl <| o_castY 18 X2 (w81 G) (Ins.self F2) d12_15 rfl ?_
  intro _ X4
  refine oV 19 (l' := #[rr pa1, rr pa2, rr pa2]) X4 d12_18 rfl rfl rfl <| oG 22 X4 (w25 G) Via.refl ((sg15 G).ext X4.old.2) d12_19 rfl ?_
  intro _ X6
  refine on 25 X6 d12_22 rfl ((if0 _ _).trans (feq (hzc G)).1) <| oA 26 X6 d12_25 rfl rfl <| oF 29 X6 (w26 G) Via.refl F0 d12_26 rfl ?_
  intro _ X8
  refine oA 30 X8 d12_29 rfl rfl <| oF 33 X8 (w26 G) Via.refl F3 d12_30 rfl ?_
  intro _ X10
  refine oN 36 X10 d12_33 rfl (teq (by decide)).2 <| oA 37 X10 d12_36 rfl rfl <| oF 40 X10 (w19 G) Via.refl F1 d12_37 rfl ?_
  intro _ X12
  refine oA 41 X12 d12_40 rfl rfl <| oF 44 X12 (w19 G) Via.refl F4 d12_41 rfl ?_
  intro _ X14
  refine mS 47 0 X14 (rm_eqA_u G F5 F6) (u9 G) all0 d12_44 rfl rfl rfl lr (by decide) all0 ?_
  rintro _ _ _ _ X15 rfl _ _ _
  refine on 50 X15 d12_47 rfl ((if0 _ _).trans (feq pc_k0).1) <| oc 51 (v := 1) X15 d12_50 rfl (by decide) <| og 55 X15 d12_51 (by decide) ?_
  exact o_nret (y := (1 : Int32)) (t := .boolean) X15 d12_55 rfl (by decide) (by simp) (by decide) (by decide) (fun _ CC => rfl)
theorem rm_au47 (F0 : ex0 Z h0 pa1) (F1 : fd0 Z h0 pa1 (.int 0)) (F2 : fd1 Z h0 pa1 (.ref pa2)) (F3 : av0 Z h0 pa2 pk1 4 [.int pi1, .int pi2, .int pi3, .int pi4]) (F4 : ex3 Z h0 pa2) (pc_k0 : ¬ (oEq [pi1, pi2, pi3, pi4] [117, 115, 101, 114]) = (0 : Int32)) : M11 G 2 2 20 28 #[.ref pa1] h0 n0 [] [pa1, pa2] (Q15 Z ku1 h0) := by
  have hw := G.1
  refine mi B11 ef3 (hEW G) fun s X0 hsf0 n0le => ?_
  have := F0.l
  have := F3.l
  have sf_pa1 := hsf0 pa1 (by simp)
  have sf_pa2 := hsf0 pa2 (by simp)
  refine oA 1 X0 d11_0 rfl rfl <| o_ldcC 3 (n := 16) (vs := own_bs ([117, 115, 101, 114] : List Int32)) (z := (4 : Int32)) X0 (w0 G) (hws_str hw) (by decide) ⟨by decide, rfl⟩ (by decide) (by decide) d11_1 rfl (by decide) (by decide) (by decide) (by decide) ?_
  intro a1 b1 kb1 _ h1 _ X1 E1 C1 Es1 Cs1 Vs1 As1 SF1
  have lta1 : h1.size > a1 := Es1.lt
  have ltb1 : h1.size > b1 := As1.lt
  have := E1.1
  have Bs1 : av0 Z h1 b1 kb1 4 [.int 117, .int 115, .int 101, .int 114] := As1
  have f3 := C1.safe (own_lt (by omega)) sf_pa1
  have := own_nes (SF1 pa1 f3)
  have f5 := C1.safe (own_lt (by omega)) sf_pa2
  have := own_nes (SF1 pa2 f5)
  have f6 := F1.ext E1
  have f7 := F2.ext E1
  have f8 := F3.ext E1
  have f9 := F0.ext E1
  refine mV 6 0 X1 f9 (rm_au46 G f6 f7 Es1 Cs1 Vs1 f8 Bs1 pc_k0 (by omega)) (u10 G) all0 d11_3 rfl rfl rfl lr (by decide) all0 ?_
  rintro _ _ _ _ X10 rfl _ _ _
  refine on 9 X10 d11_6 rfl ((if0 _ _).trans (feq (by decide)).1) <| oG 12 X10 (w126 G) Via.refl ((sg17 G).ext X10.old.2) d11_9 rfl ?_
  intro _ X12
  exact oR X12 d11_12 rfl rfl rfl (by decide) (by decide) (fun _ CC => rfl)
theorem rm_au48 (F0 : ex0 Z h0 pa1) (F1 : fd0 Z h0 pa1 (.int pi100)) (F2 : fd1 Z h0 pa1 (.ref pa2)) (F3 : av0 Z h0 pa2 pk1 4 [.int pi1, .int pi2, .int pi3, .int pi4]) (pc_k0 : ¬ (oEq [pi1, pi2, pi3, pi4] [117, 115, 101, 114]) = (0 : Int32)) (pc_0 : (0 : Int32) = pi100) (ne : NE su1 pa1) : M12 G 1 0 0 14 #[.ref su1, .ref pa1] h0 n0 [] [] (Q3 Z  h0) := by
  refine mi B12 ef5 (hEW G) fun s X0 hsf0 n0le => ?_
  have := F0.l
  have := F3.l
  have gl_su1 := ltg_su1 G X0.old
  refine oA 1 X0 d12_0 rfl rfl <| oA 2 X0 d12_1 rfl rfl <| o_acmp 7 (same := false) X0 d12_2 rfl rfl (decide_eq_false (fun q => absurd (Value.ref.inj q) (own_ne (by omega)))) (by decide) (by decide) <| oA 8 X0 d12_7 rfl rfl <| o_instY 11 X0 (w81 G) (Ins.self F0) d12_8 rfl ?_
  intro _ X2
  refine on 14 X2 d12_11 rfl ((if0 _ _).trans (feq (by decide)).1) <| oA 15 X2 d12_14 rfl rfl <| o_castY 18 X2 (w81 G) (Ins.self F0) d12_15 rfl ?_
  intro _ X4
  refine oV 19 (l' := #[rr su1, rr pa1, rr pa1]) X4 d12_18 rfl rfl rfl <| oG 22 X4 (w25 G) Via.refl ((sg15 G).ext X4.old.2) d12_19 rfl ?_
  intro _ X6
  refine on 25 X6 d12_22 rfl ((if0 _ _).trans (feq (hzc G)).1) <| oA 26 X6 d12_25 rfl rfl ?_
  have f7 := (C_su1 G).ext X6.old.2
  refine oF 29 X6 (w26 G) Via.refl f7 d12_26 rfl ?_
  intro _ X9
  refine oA 30 X9 d12_29 rfl rfl <| oF 33 X9 (w26 G) Via.refl F1 d12_30 rfl ?_
  intro _ X11
  refine oN 36 X11 d12_33 rfl (teq pc_0).2 <| oA 37 X11 d12_36 rfl rfl ?_
  have f12 := (F_su1 G).ext X11.old.2
  refine oF 40 X11 (w19 G) Via.refl f12 d12_37 rfl ?_
  intro _ X14
  refine oA 41 X14 d12_40 rfl rfl <| oF 44 X14 (w19 G) Via.refl F2 d12_41 rfl ?_
  intro _ X16
  refine mS 47 0 X16 (rm_eqB_u G F3) (u9 G) all0 d12_44 rfl rfl rfl lr (by decide) all0 ?_
  rintro _ _ _ _ X17 rfl _ _ _
  refine on 50 X17 d12_47 rfl ((if0 _ _).trans (feq pc_k0).1) <| oc 51 (v := 1) X17 d12_50 rfl (by decide) <| og 55 X17 d12_51 (by decide) ?_
  exact o_nret (y := (1 : Int32)) (t := .boolean) X17 d12_55 rfl (by decide) (by simp) (by decide) (by decide) (fun _ CC => rfl)
theorem rm_au49  : M23 G 0 0 0 0 #[.ref ku1] h0 n0 [] [] (Q15 Z ku1 h0) := by
  refine mi B23 ef3 (hEW G) fun s X0 hsf0 n0le => ?_
  refine oA 1 X0 d23_0 rfl rfl <| ifnonnullYesJ 12 X0 d23_1 (by decide) <| oA 13 X0 d23_12 rfl rfl ?_
  exact oR X0 d23_13 rfl rfl rfl (by decide) (by decide) (fun _ CC => rfl)
theorem rm_au50 (F0 : ex4 Z h0 pa1) (F1 : fd2 Z h0 pa1 .null) (ne : n0 ≤ pa1) : M24 G 1 0 0 12 #[.ref pa1, .ref ku1] h0 n0 [pa1] [] (Q24 Z pa1 ku1 h0) := by
  refine mi B24 ef11 (hEW G) fun s X0 hsf0 n0le => ?_
  have := F0.l
  refine oA 1 X0 d24_0 rfl rfl <| o_initO 4 (W := 0) X0 (w140 G) (w61 G) (w62 G) rfl (by decide) (Nat.le_of_eq rfl) (by decide) d24_1 rfl ?_
  intro _ X2
  refine oA 5 X2 d24_4 rfl rfl <| oA 6 X2 d24_5 rfl rfl <| oP 9 (v' := (.ref ku1)) X2 (w124 G) Via.refl F1 F0 (Or.inr ⟨(w125 G), rfl, rfl⟩) (w131 G) fd_2 rfl rfl d24_6 rfl (by omega) (Or.inl (by simp)) (sx X2 F0 nc1) ?_
  intro _ _ X3 W3 _
  have := W3.size
  have f4 := F1.same W3
  have f5 := F0.wr W3
  exact oz X3 d24_9 rfl (by decide) (by decide) (fun _ CC => ⟨rfl, f5, f4⟩)
theorem rm_au51  : M22 G 2 1 1 26 #[.ref ku1] h0 n0 [] [] (Q25 Z ku1 h0) := by
  refine mi B22 ef3 (hEW G) fun s X0 hsf0 n0le => ?_
  refine o_new 3 X0 (w130 G) (w131 G) (w116 G) d22_0 rfl (by decide) (by decide) ?_
  intro _ h1 b1 X1 _ _ _ A1 D1 _ _ _
  have f2 : fd2 Z h1 b1 .null := D1 (Or.inr (w125 G)) fd_2
  refine oD 4 X1 d22_3 rfl rfl <| oA 5 X1 d22_4 rfl rfl <| mS 8 2 X1 (rm_au49 G ) (u22 G) all0 d22_5 rfl rfl rfl lr (by decide) all0 ?_
  rintro _ _ _ _ X3 rfl K3 _ _
  have f4 := A1.keep K3
  have f5 := f2.k0 K3
  refine mP 11 1 X3 (rm_au50 G f4 f5 (by omega)) (u23 G) all0 d22_8 rfl rfl rfl lr (by decide) (aR (by omega) all0) ?_
  rintro _ _ _ _ X6 ⟨rfl, q7, q8⟩ _ _ _
  exact oR X6 d22_11 rfl rfl rfl (by decide) (by decide) (fun _ CC => ⟨b1, rfl, q7, q8, by omega⟩)
theorem rm_au52 (F0 : ex0 Z h0 pa1) (F1 : fd0 Z h0 pa1 (.int 0)) (F2 : fd1 Z h0 pa1 (.ref pa2)) (F3 : av0 Z h0 pa2 pk1 4 [.int pi1, .int pi2, .int pi3, .int pi4]) (pc_k0 : ¬ (oEq [pi1, pi2, pi3, pi4] [117, 115, 101, 114]) = (0 : Int32)) (ne : NE su1 pa1) : M13 G 3 2 5 38 #[.ref pa1] h0 n0 [] [] (Q25 Z ku1 h0) := by
  refine mi B13 ef7 (hEW G) fun s X0 hsf0 n0le => ?_
  have := F0.l
  have := F3.l
  have gl_su1 := ltg_su1 G X0.old
  refine mS 3 0 X0 (rm_au15 G ) (u12 G) all0 d13_0 rfl rfl rfl lr (by decide) all0 ?_
  rintro _ _ _ _ X1 ⟨xa1_2, rfl, q3, _, _⟩ K1 _ _
  refine oV 4 (l' := #[rr pa1, rr xa1_2, uu, uu, uu]) X1 d13_3 rfl rfl rfl <| oA 5 X1 d13_4 rfl rfl <| oL 6 X1 q3 d13_5 rfl <| oT 7 (l' := #[rr pa1, rr xa1_2, ii 4, uu, uu]) X1 d13_6 rfl rfl <| oc 8 (v := 0) X1 d13_7 rfl (by decide) <| oT 9 (l' := #[rr pa1, rr xa1_2, ii 4, ii 0, uu]) X1 d13_8 rfl rfl <| oI 10 X1 d13_9 rfl rfl <| oI 11 X1 d13_10 rfl rfl <| oN 14 X1 d13_11 rfl (tlt (by decide)).2.1 <| oA 15 X1 d13_14 rfl rfl <| oI 16 X1 d13_15 rfl rfl <| o_aaload 17 (v := (.ref ku1)) X1 q3 rfl ⟨by decide, by decide⟩ rfl d13_16 rfl ?_
  refine oU 19 (l' := #[rr pa1, rr xa1_2, ii 4, ii 0, rr ku1]) X1 d13_17 rfl rfl rfl <| oa 21 X1 d13_19 rfl rfl ?_
  have f6 := (F_ku1 G).ext X1.old.2
  refine oF 24 X1 (w111 G) Via.refl f6 d13_21 rfl ?_
  intro _ X8
  refine oA 25 X8 d13_24 rfl rfl ?_
  have f9 := F0.keep K1
  have f10 := F1.k0 K1
  have f11 := F2.k0 K1
  have f12 := F3.k0 K1
  have f13 := (sg10 G).ext X8.old.2
  refine mV 28 0 X8 f13 (rm_au48 G f9 f10 f11 f12 pc_k0 (by decide) (by omega)) (u13 G) all0 d13_25 rfl rfl rfl lr (by decide) all0 ?_
  rintro _ _ _ _ X14 rfl _ _ _
  refine on 31 X14 d13_28 rfl ((if0 _ _).trans (feq (by decide)).1) <| oa 33 X14 d13_31 rfl rfl <| mS 36 0 X14 (rm_au51 G ) (u24 G) all0 d13_33 rfl rfl rfl lr (by decide) all0 ?_
  rintro _ _ _ _ X15 ⟨xa1_16, rfl, q17, q18, _⟩ _ _ _
  exact oR X15 d13_36 rfl rfl rfl (by decide) (by decide) (fun _ CC => ⟨xa1_16, rfl, q17, q18, by omega⟩)
theorem rm_au53 (F0 : fd2 Z h0 pa1 (.ref ku1)) : M16 G 0 0 0 0 #[.ref pa1, .null] h0 n0 [] [] (Q15 Z ku1 h0) := by
  refine mi B16 ef10 (hEW G) fun s X0 hsf0 n0le => ?_
  have := F0.l
  refine oA 1 X0 d16_0 rfl rfl <| oF 4 X0 (w124 G) Via.refl F0 d16_1 rfl ?_
  intro _ X2
  refine o_ifnullNo 7 X2 d16_4 rfl <| oA 8 X2 d16_7 rfl rfl <| oF 11 X2 (w124 G) Via.refl F0 d16_8 rfl ?_
  intro _ X4
  refine og 15 X4 d16_11 (by decide) ?_
  exact oR X4 d16_15 rfl rfl rfl (by decide) (by decide) (fun _ CC => rfl)
def Q26 (Z : State) (b1 : Addr) (b2 : ClassId) (b3 b4 b5 b6 b7 : Int32) (h0 : Heap) (v : Option Value) (h : Heap) (vm : Vm) : Prop := v = some (.int 5) ∧ av0 Z h b1 b2 5 [.int (b3.toInt8.toInt32), .int (b4.toInt8.toInt32), .int (b5.toInt8.toInt32), .int (b6.toInt8.toInt32), .int (b7.toInt8.toInt32)] ∧ ex3 Z h b1
theorem rm_au54 (F0 : av1 Z h0 pa1 pk1 5 [.int pi1, .int pi2, .int pi3, .int pi4, .int pi5]) (F1 : av0 Z h0 pa2 pk2 5 [.int pi100, .int pi101, .int pi102, .int pi103, .int pi104]) (F2 : ex3 Z h0 pa2) (rg_pi1 : ¬ pi1 < 0 ∧ ¬ (255 : Int32) < pi1) (rg_pi2 : ¬ pi2 < 0 ∧ ¬ (255 : Int32) < pi2) (rg_pi3 : ¬ pi3 < 0 ∧ ¬ (255 : Int32) < pi3) (rg_pi4 : ¬ pi4 < 0 ∧ ¬ (255 : Int32) < pi4) (rg_pi5 : ¬ pi5 < 0 ∧ ¬ (255 : Int32) < pi5) (ne : NE pa1 pa2 ∧ n0 ≤ pa2) : M20 G 0 0 0 0 #[.ref pa1, i0, .ref pa2, i0, .int 5] h0 n0 [pa2] [pa2] (Q26 Z pa2 pk2 pi1 pi2 pi3 pi4 pi5 h0) := by
  refine mi B20 ef14 (hEW G) fun s X0 hsf0 n0le => ?_
  have := F0.l
  have := F1.l
  have sf_pa2 := hsf0 pa2 (by simp)
  refine oc 1 (v := 0) X0 d20_0 rfl (by decide) <| oS 3 (l' := #[rr pa1, ii 0, rr pa2, ii 0, ii 5, ii 0, uu]) X0 d20_1 rfl rfl <| oi 5 X0 d20_3 rfl rfl <| oi 7 X0 d20_5 rfl rfl <| oN 10 X0 d20_7 rfl (tlt (by decide)).2.1 <| oA 11 X0 d20_10 rfl rfl <| oI 12 X0 d20_11 rfl rfl <| oC 13 (v := (.int pi1)) X0 F0 ⟨by decide, by decide⟩ rfl d20_12 rfl <| oS 15 (l' := #[rr pa1, ii 0, rr pa2, ii 0, ii 5, ii 0, ii pi1]) X0 d20_13 rfl rfl <| oi 17 X0 d20_15 rfl rfl <| o_sipush 20 (v := 255) X0 d20_17 rfl (by decide) <| oY 26 X0 d20_20 (by decide) (flt rg_pi1.2).2.2.2 ?_
  refine oA 27 X0 d20_26 rfl rfl <| oI 28 X0 d20_27 rfl rfl <| oi 30 X0 d20_28 rfl rfl <| o_i2b 31 (v := (pi1.toInt8.toInt32)) X0 d20_30 rfl rfl <| sB 32 0 (pi1.toInt8.toInt32) X0 F1 (by decide) (lb rfl) (own_narB _) d20_31 rfl (by omega) (Or.inl (by simp)) sf_pa2 ?_
  rintro _ _ X1 ⟨_, _, W1⟩ C1 V1
  have := W1.size
  have V2 := V1.as [.int (pi1.toInt8.toInt32), .int pi101, .int pi102, .int pi103, .int pi104] rfl
  refine oJ 35 1 #[rr pa1, ii 1, rr pa2, ii 0, ii 5, ii 0, ii pi1] X1 d20_32 rfl rfl (by decide) rfl <| oJ 38 1 #[rr pa1, ii 1, rr pa2, ii 1, ii 5, ii 0, ii pi1] X1 d20_35 rfl rfl (by decide) rfl <| oJ 41 1 #[rr pa1, ii 1, rr pa2, ii 1, ii 5, ii 1, ii pi1] X1 d20_38 rfl rfl (by decide) rfl <| og 3 X1 d20_41 (by decide) <| oi 5 X1 d20_3 rfl rfl <| oi 7 X1 d20_5 rfl rfl <| oN 10 X1 d20_7 rfl (tlt (by decide)).2.1 <| oA 11 X1 d20_10 rfl rfl <| oI 12 X1 d20_11 rfl rfl ?_
  have f3 := F0.oth W1 (by omega)
  refine oC 13 (v := (.int pi2)) X1 f3 ⟨by decide, by decide⟩ rfl d20_12 rfl <| oS 15 (l' := #[rr pa1, ii 1, rr pa2, ii 1, ii 5, ii 1, ii pi2]) X1 d20_13 rfl rfl <| oi 17 X1 d20_15 rfl rfl <| o_sipush 20 (v := 255) X1 d20_17 rfl (by decide) <| oY 26 X1 d20_20 (by decide) (flt rg_pi2.2).2.2.2 <| oA 27 X1 d20_26 rfl rfl <| oI 28 X1 d20_27 rfl rfl <| oi 30 X1 d20_28 rfl rfl <| o_i2b 31 (v := (pi2.toInt8.toInt32)) X1 d20_30 rfl rfl ?_
  have f5 := C1.safe (own_lt (by omega)) sf_pa2
  refine sB 32 1 (pi2.toInt8.toInt32) X1 V2 (by decide) (lb rfl) (own_narB _) d20_31 rfl (by omega) (Or.inl (by simp)) f5 ?_
  rintro _ _ X4 ⟨_, _, W4⟩ C4 V4
  have := W4.size
  have V6 := V4.as [.int (pi1.toInt8.toInt32), .int (pi2.toInt8.toInt32), .int pi102, .int pi103, .int pi104] rfl
  refine oJ 35 2 #[rr pa1, ii 2, rr pa2, ii 1, ii 5, ii 1, ii pi2] X4 d20_32 rfl rfl (by decide) rfl <| oJ 38 2 #[rr pa1, ii 2, rr pa2, ii 2, ii 5, ii 1, ii pi2] X4 d20_35 rfl rfl (by decide) rfl <| oJ 41 2 #[rr pa1, ii 2, rr pa2, ii 2, ii 5, ii 2, ii pi2] X4 d20_38 rfl rfl (by decide) rfl <| og 3 X4 d20_41 (by decide) <| oi 5 X4 d20_3 rfl rfl <| oi 7 X4 d20_5 rfl rfl <| oN 10 X4 d20_7 rfl (tlt (by decide)).2.1 <| oA 11 X4 d20_10 rfl rfl <| oI 12 X4 d20_11 rfl rfl ?_
  have f7 := f3.oth W4 (by omega)
  refine oC 13 (v := (.int pi3)) X4 f7 ⟨by decide, by decide⟩ rfl d20_12 rfl <| oS 15 (l' := #[rr pa1, ii 2, rr pa2, ii 2, ii 5, ii 2, ii pi3]) X4 d20_13 rfl rfl <| oi 17 X4 d20_15 rfl rfl <| o_sipush 20 (v := 255) X4 d20_17 rfl (by decide) <| oY 26 X4 d20_20 (by decide) (flt rg_pi3.2).2.2.2 <| oA 27 X4 d20_26 rfl rfl <| oI 28 X4 d20_27 rfl rfl <| oi 30 X4 d20_28 rfl rfl <| o_i2b 31 (v := (pi3.toInt8.toInt32)) X4 d20_30 rfl rfl ?_
  have f9 := C4.safe (own_lt (by omega)) f5
  refine sB 32 2 (pi3.toInt8.toInt32) X4 V6 (by decide) (lb rfl) (own_narB _) d20_31 rfl (by omega) (Or.inl (by simp)) f9 ?_
  rintro _ _ X8 ⟨_, _, W8⟩ C8 V8
  have := W8.size
  have V10 := V8.as [.int (pi1.toInt8.toInt32), .int (pi2.toInt8.toInt32), .int (pi3.toInt8.toInt32), .int pi103, .int pi104] rfl
  refine oJ 35 3 #[rr pa1, ii 3, rr pa2, ii 2, ii 5, ii 2, ii pi3] X8 d20_32 rfl rfl (by decide) rfl <| oJ 38 3 #[rr pa1, ii 3, rr pa2, ii 3, ii 5, ii 2, ii pi3] X8 d20_35 rfl rfl (by decide) rfl <| oJ 41 3 #[rr pa1, ii 3, rr pa2, ii 3, ii 5, ii 3, ii pi3] X8 d20_38 rfl rfl (by decide) rfl <| og 3 X8 d20_41 (by decide) <| oi 5 X8 d20_3 rfl rfl <| oi 7 X8 d20_5 rfl rfl <| oN 10 X8 d20_7 rfl (tlt (by decide)).2.1 <| oA 11 X8 d20_10 rfl rfl <| oI 12 X8 d20_11 rfl rfl ?_
  have f11 := f7.oth W8 (by omega)
  refine oC 13 (v := (.int pi4)) X8 f11 ⟨by decide, by decide⟩ rfl d20_12 rfl <| oS 15 (l' := #[rr pa1, ii 3, rr pa2, ii 3, ii 5, ii 3, ii pi4]) X8 d20_13 rfl rfl <| oi 17 X8 d20_15 rfl rfl <| o_sipush 20 (v := 255) X8 d20_17 rfl (by decide) <| oY 26 X8 d20_20 (by decide) (flt rg_pi4.2).2.2.2 <| oA 27 X8 d20_26 rfl rfl <| oI 28 X8 d20_27 rfl rfl <| oi 30 X8 d20_28 rfl rfl <| o_i2b 31 (v := (pi4.toInt8.toInt32)) X8 d20_30 rfl rfl ?_
  have f13 := C8.safe (own_lt (by omega)) f9
  refine sB 32 3 (pi4.toInt8.toInt32) X8 V10 (by decide) (lb rfl) (own_narB _) d20_31 rfl (by omega) (Or.inl (by simp)) f13 ?_
  rintro _ _ X12 ⟨_, _, W12⟩ C12 V12
  have := W12.size
  have V14 := V12.as [.int (pi1.toInt8.toInt32), .int (pi2.toInt8.toInt32), .int (pi3.toInt8.toInt32), .int (pi4.toInt8.toInt32), .int pi104] rfl
  refine oJ 35 4 #[rr pa1, ii 4, rr pa2, ii 3, ii 5, ii 3, ii pi4] X12 d20_32 rfl rfl (by decide) rfl <| oJ 38 4 #[rr pa1, ii 4, rr pa2, ii 4, ii 5, ii 3, ii pi4] X12 d20_35 rfl rfl (by decide) rfl <| oJ 41 4 #[rr pa1, ii 4, rr pa2, ii 4, ii 5, ii 4, ii pi4] X12 d20_38 rfl rfl (by decide) rfl <| og 3 X12 d20_41 (by decide) <| oi 5 X12 d20_3 rfl rfl <| oi 7 X12 d20_5 rfl rfl <| oN 10 X12 d20_7 rfl (tlt (by decide)).2.1 <| oA 11 X12 d20_10 rfl rfl <| oI 12 X12 d20_11 rfl rfl ?_
  have f15 := f11.oth W12 (by omega)
  refine oC 13 (v := (.int pi5)) X12 f15 ⟨by decide, by decide⟩ rfl d20_12 rfl <| oS 15 (l' := #[rr pa1, ii 4, rr pa2, ii 4, ii 5, ii 4, ii pi5]) X12 d20_13 rfl rfl <| oi 17 X12 d20_15 rfl rfl <| o_sipush 20 (v := 255) X12 d20_17 rfl (by decide) <| oY 26 X12 d20_20 (by decide) (flt rg_pi5.2).2.2.2 <| oA 27 X12 d20_26 rfl rfl <| oI 28 X12 d20_27 rfl rfl <| oi 30 X12 d20_28 rfl rfl <| o_i2b 31 (v := (pi5.toInt8.toInt32)) X12 d20_30 rfl rfl ?_
  have f17 := C12.safe (own_lt (by omega)) f13
  refine sB 32 4 (pi5.toInt8.toInt32) X12 V14 (by decide) (lb rfl) (own_narB _) d20_31 rfl (by omega) (Or.inl (by simp)) f17 ?_
  rintro _ _ X16 ⟨_, _, W16⟩ _ V16
  have := W16.size
  have V18 := V16.as [.int (pi1.toInt8.toInt32), .int (pi2.toInt8.toInt32), .int (pi3.toInt8.toInt32), .int (pi4.toInt8.toInt32), .int (pi5.toInt8.toInt32)] rfl
  refine oJ 35 5 #[rr pa1, ii 5, rr pa2, ii 4, ii 5, ii 4, ii pi5] X16 d20_32 rfl rfl (by decide) rfl <| oJ 38 5 #[rr pa1, ii 5, rr pa2, ii 5, ii 5, ii 4, ii pi5] X16 d20_35 rfl rfl (by decide) rfl <| oJ 41 5 #[rr pa1, ii 5, rr pa2, ii 5, ii 5, ii 5, ii pi5] X16 d20_38 rfl rfl (by decide) rfl <| og 3 X16 d20_41 (by decide) <| oi 5 X16 d20_3 rfl rfl <| oi 7 X16 d20_5 rfl rfl <| oY 44 X16 d20_7 (by decide) (flt (by decide)).2.1 <| oi 46 X16 d20_44 rfl rfl ?_
  have f19 := ((((F2.wr W1).wr W4).wr W8).wr W12).wr W16
  exact o_iret X16 d20_46 rfl (by decide) (by decide) (fun _ CC => ⟨rfl, V18, f19⟩)
def Q27 (Z : State) (b1 b2 b3 b4 b5 : Int32) (h0 : Heap) (v : Option Value) (h : Heap) (vm : Vm) : Prop := ∃ (xa1 : Addr) (xk1 : ClassId), v = some (.ref xa1) ∧ av0 Z h xa1 xk1 5 [.int (b1.toInt8.toInt32), .int (b2.toInt8.toInt32), .int (b3.toInt8.toInt32), .int (b4.toInt8.toInt32), .int (b5.toInt8.toInt32)] ∧ ex3 Z h xa1 ∧ Safe Z EL0 vm h xa1 ∧ h0.size ≤ xa1 ∧ h.size > xa1
theorem rm_au55 (F0 : av1 Z h0 pa1 pk1 5 [.int pi1, .int pi2, .int pi3, .int pi4, .int pi5]) (rg_pi1 : ¬ pi1 < 0 ∧ ¬ (255 : Int32) < pi1) (rg_pi2 : ¬ pi2 < 0 ∧ ¬ (255 : Int32) < pi2) (rg_pi3 : ¬ pi3 < 0 ∧ ¬ (255 : Int32) < pi3) (rg_pi4 : ¬ pi4 < 0 ∧ ¬ (255 : Int32) < pi4) (rg_pi5 : ¬ pi5 < 0 ∧ ¬ (255 : Int32) < pi5) : M19 G 1 1 5 18 #[.ref pa1, i0, .int 5] h0 n0 [] [] (Q27 Z pi1 pi2 pi3 pi4 pi5 h0) := by
  refine mi B19 ef13 (hEW G) fun s X0 hsf0 n0le => ?_
  have l1 := F0.l
  refine oI 1 X0 d19_0 rfl rfl <| nP (aty := .byte) 3 5 X0 (w3 G) d19_1 rfl (by decide) had_byte ?_
  intro _ h1 b1 k1 X1 _ l1 E1 V1 A1 _ S1
  have V2 : av0 Z h1 b1 k1 5 [i0, i0, i0, i0, i0] := V1.pad (pad_rep [] (.int (0 : Int32)) 5)
  refine oV 4 (l' := #[rr pa1, ii 0, ii 5, rr b1, uu, uu]) X1 d19_3 rfl rfl rfl <| oA 5 X1 d19_4 rfl rfl <| oI 6 X1 d19_5 rfl rfl <| oA 7 X1 d19_6 rfl rfl <| oc 8 (v := 0) X1 d19_7 rfl (by decide) <| oI 9 X1 d19_8 rfl rfl ?_
  have f3 := F0.ext E1
  refine mS 12 0 X1 (rm_au54 G f3 V2 A1 rg_pi1 rg_pi2 rg_pi3 rg_pi4 rg_pi5 (by omega)) (u17 G) (sS (by omega) S1 all0) d19_9 rfl rfl rfl lr (by decide) (aR (by omega) all0) ?_
  rintro _ _ _ _ X4 ⟨rfl, q5, q6⟩ _ _ C4
  refine oS 14 (l' := #[rr pa1, ii 0, ii 5, rr b1, ii 5, uu]) X4 d19_12 rfl rfl <| oi 16 X4 d19_14 rfl rfl <| oI 17 X4 d19_16 rfl rfl <| oY 57 X4 d19_17 (by decide) (teq (by decide)).1 <| oA 58 X4 d19_57 rfl rfl ?_
  have f7 := C4.safe (own_lt (by omega)) S1
  exact oR X4 d19_58 rfl rfl rfl (by decide) (by decide) (fun _ CC => ⟨b1, k1, rfl, q5, q6, (CC.safe (own_lt (by omega)) f7), by omega⟩)
theorem rm_au56 (F0 : av0 Z h0 pa1 pk1 5 ps_pa1) : M21 G 0 0 0 0 #[.ref pa1, .int 5] h0 n0 [] [] (Q4 Z  h0) := by
  refine mi B21 ef0 (hEW G) fun s X0 hsf0 n0le => ?_
  have := F0.l
  refine oI 1 X0 d21_0 rfl rfl <| oA 2 X0 d21_1 rfl rfl <| oL 3 X0 F0 d21_2 rfl <| o_isub 4 (v := 0) X0 d21_3 rfl (by decide) <| ob 6 (v := 31) X0 d21_4 rfl (by decide) <| o_iushr 7 (v := 0) X0 d21_6 rfl (by decide) <| o_i2b 8 (v := 0) X0 d21_7 rfl (by decide) ?_
  exact o_nret (y := (0 : Int32)) (t := .byte) X0 d21_8 rfl (by decide) (by simp) (by decide) (by decide) (fun _ CC => rfl)
def Q28 (Z : State) (b1 : Addr) (b2 b3 b4 b5 b6 : Int32) (h0 : Heap) (v : Option Value) (h : Heap) (vm : Vm) : Prop := ∃ (xa1 : Addr) (xk1 : ClassId), v = none ∧ ex0 Z h b1 ∧ fd0 Z h b1 (.int 0) ∧ fd1 Z h b1 (.ref xa1) ∧ av0 Z h xa1 xk1 5 [.int (b2.toInt8.toInt32), .int (b3.toInt8.toInt32), .int (b4.toInt8.toInt32), .int (b5.toInt8.toInt32), .int (b6.toInt8.toInt32)] ∧ ex3 Z h xa1 ∧ Safe Z EL0 vm h xa1 ∧ h0.size ≤ xa1 ∧ h.size > xa1
theorem rm_au57 (F0 : ex0 Z h0 pa1) (F1 : fd0 Z h0 pa1 (.int pi1)) (F2 : fd1 Z h0 pa1 .null) (F3 : av1 Z h0 pa2 pk1 5 [.int pi2, .int pi3, .int pi4, .int pi5, .int pi6]) (rg_pi2 : ¬ pi2 < 0 ∧ ¬ (255 : Int32) < pi2) (rg_pi3 : ¬ pi3 < 0 ∧ ¬ (255 : Int32) < pi3) (rg_pi4 : ¬ pi4 < 0 ∧ ¬ (255 : Int32) < pi4) (rg_pi5 : ¬ pi5 < 0 ∧ ¬ (255 : Int32) < pi5) (rg_pi6 : ¬ pi6 < 0 ∧ ¬ (255 : Int32) < pi6) (ne : NE pa1 pa2 ∧ n0 ≤ pa1) : M18 G 2 1 5 35 #[.ref pa1, .ref pa2, i0, .int 5, .null] h0 n0 [pa1] [pa1] (Q28 Z pa1 pi2 pi3 pi4 pi5 pi6 h0) := by
  refine mi B18 ef12 (hEW G) fun s X0 hsf0 n0le => ?_
  have := F0.l
  have := F3.l
  have sf_pa1 := hsf0 pa1 (by simp)
  refine oA 1 X0 d18_0 rfl rfl <| o_initO 4 (W := 0) X0 (w60 G) (w61 G) (w62 G) rfl (by decide) (Nat.le_of_eq rfl) (by decide) d18_1 rfl ?_
  intro _ X2
  refine oI 5 X2 d18_4 rfl rfl <| oy 27 X2 d18_5 (by decide) ((if0 _ _).trans (feq (by decide)).2) <| oG 30 X2 (w25 G) Via.refl ((sg15 G).ext X2.old.2) d18_27 rfl ?_
  intro _ X4
  refine on 33 X4 d18_30 rfl ((if0 _ _).trans (feq (hzc G)).1) <| oA 34 X4 d18_33 rfl rfl <| oI 35 X4 d18_34 rfl rfl <| oI 36 X4 d18_35 rfl rfl <| mS 39 0 X4 (rm_au55 G F3 rg_pi2 rg_pi3 rg_pi4 rg_pi5 rg_pi6) (u18 G) all0 d18_36 rfl rfl rfl lr (by decide) all0 ?_
  rintro _ _ _ _ X5 ⟨xa1_6, xk1_7, rfl, q8, q9, q10, _⟩ K5 _ C5
  refine oU 41 (l' := #[rr pa1, rr pa2, ii 0, ii 5, .val .null, rr xa1_6]) X5 d18_39 rfl rfl rfl <| oA 42 X5 d18_41 rfl rfl <| oa 44 X5 d18_42 rfl rfl <| oI 45 X5 d18_44 rfl rfl <| mS 48 1 X5 (rm_au56 G q8) (u19 G) all0 d18_45 rfl rfl rfl lr (by decide) all0 ?_
  rintro _ _ _ _ X12 rfl K12 _ C12
  have f13 := (F1.k0 K5).k0 K12
  have f14 := (F0.keep K5).keep K12
  have f16 := C12.safe (own_lt (by omega)) (C5.safe (own_lt (by omega)) sf_pa1)
  refine oP 51 (v' := (.int 0)) X12 (w26 G) Via.refl f13 f14 (Or.inr ⟨(w5 G), rfl, rfl⟩) (w2 G) fd_1 rfl rfl d18_48 rfl (by omega) (Or.inl (by simp)) f16 ?_
  intro _ _ X15 W15 C15
  have := W15.size
  have f17 := f13.same W15
  refine oA 52 X15 d18_51 rfl rfl <| oa 54 X15 d18_52 rfl rfl ?_
  have f18 := ((F2.k0 K5).k0 K12).other W15 (Or.inr (sn0 G))
  have f19 := f14.wr W15
  have f21 := C15.safe (own_lt (by omega)) f16
  refine oP 57 (v' := (.ref xa1_6)) X15 (w19 G) Via.refl f18 f19 (Or.inr ⟨(w4 G), rfl, rfl⟩) (w2 G) fd_0 rfl rfl d18_54 rfl (by omega) (Or.inl (by simp)) f21 ?_
  intro _ _ X20 W20 C20
  have := W20.size
  have f22 := f18.same W20
  have f23 := f19.wr W20
  have f24 := f17.other W20 (Or.inr (sn1 G))
  have f25 := ((q8.k0 K12).oth W15 (by omega)).oth W20 (by omega)
  have f26 := ((q9.keep K12).wr W15).wr W20
  have f27 := C20.safe (own_lt (by omega)) (C15.safe (own_lt (by omega)) (C12.safe (own_lt (by omega)) q10))
  exact oz X20 d18_57 rfl (by decide) (by decide) (fun _ CC => ⟨xa1_6, xk1_7, rfl, f23, f24, f22, f25, f26, (CC.safe (own_lt (by omega)) f27), by omega⟩)
theorem rm_au58 (F0 : ex0 Z h0 pa1) (F1 : fd0 Z h0 pa1 (.int pi100)) (F2 : fd1 Z h0 pa1 .null) (F3 : av1 Z h0 pa2 pk1 5 [.int pi1, .int pi2, .int pi3, .int pi4, .int pi5]) (rg_pi1 : ¬ pi1 < 0 ∧ ¬ (255 : Int32) < pi1) (rg_pi2 : ¬ pi2 < 0 ∧ ¬ (255 : Int32) < pi2) (rg_pi3 : ¬ pi3 < 0 ∧ ¬ (255 : Int32) < pi3) (rg_pi4 : ¬ pi4 < 0 ∧ ¬ (255 : Int32) < pi4) (rg_pi5 : ¬ pi5 < 0 ∧ ¬ (255 : Int32) < pi5) (ne : NE pa1 pa2 ∧ n0 ≤ pa1) : M17 G 3 1 5 52 #[.ref pa1, .ref pa2] h0 n0 [pa1] [pa1] (Q28 Z pa1 pi1 pi2 pi3 pi4 pi5 h0) := by
  refine mi B17 ef11 (hEW G) fun s X0 hsf0 n0le => ?_
  have := F0.l
  have := F3.l
  have sf_pa1 := hsf0 pa1 (by simp)
  refine oA 1 X0 d17_0 rfl rfl <| oA 2 X0 d17_1 rfl rfl <| oc 3 (v := 0) X0 d17_2 rfl (by decide) <| oA 4 X0 d17_3 rfl rfl <| oL 5 X0 F3 d17_4 rfl <| o_aconstNull 6 X0 d17_5 rfl <| mP 9 0 X0 (rm_au57 G F0 F1 F2 F3 rg_pi1 rg_pi2 rg_pi3 rg_pi4 rg_pi5 (by omega)) (u20 G) (sS (by omega) sf_pa1 all0) d17_6 rfl rfl rfl lr (by decide) (aI (by omega) (by simp) all0) ?_
  rintro _ _ _ _ X1 ⟨xa1_2, xk1_3, rfl, q4, q5, q6, q7, q8, q9, _⟩ _ _ _
  exact oz X1 d17_9 rfl (by decide) (by decide) (fun _ CC => ⟨xa1_2, xk1_3, rfl, q4, q5, q6, q7, q8, (CC.safe (own_lt (by omega)) q9), by omega⟩)
def Q29 (Z : State) (b1 b2 b3 b4 b5 : Int32) (h0 : Heap) (v : Option Value) (h : Heap) (vm : Vm) : Prop := ∃ (xa1 : Addr) (xa2 : Addr) (xk1 : ClassId), v = some (.ref xa1) ∧ ex0 Z h xa1 ∧ fd0 Z h xa1 (.int 0) ∧ fd1 Z h xa1 (.ref xa2) ∧ Safe Z EL0 vm h xa1 ∧ av0 Z h xa2 xk1 5 [.int (b1.toInt8.toInt32), .int (b2.toInt8.toInt32), .int (b3.toInt8.toInt32), .int (b4.toInt8.toInt32), .int (b5.toInt8.toInt32)] ∧ ex3 Z h xa2 ∧ Safe Z EL0 vm h xa2 ∧ h0.size ≤ xa1 ∧ h.size > xa1 ∧ h0.size ≤ xa2 ∧ h.size > xa2 ∧ NE xa1 xa2
theorem rm_au59 (F0 : av1 Z h0 pa1 pk1 22 [.int pi1, .int pi2, .int pi3, .int pi4, .int pi5, .int pi6, .int pi7, .int pi8, .int pi9, .int pi10, .int pi11, .int pi12, .int pi13, .int pi14, .int pi15, .int pi16, .int pi17, .int pi18, .int pi19, .int pi20, .int pi21, .int pi22]) (rg_pi1 : ¬ pi1 < 0 ∧ ¬ (255 : Int32) < pi1) (rg_pi2 : ¬ pi2 < 0 ∧ ¬ (255 : Int32) < pi2) (rg_pi3 : ¬ pi3 < 0 ∧ ¬ (255 : Int32) < pi3) (rg_pi4 : ¬ pi4 < 0 ∧ ¬ (255 : Int32) < pi4) (rg_pi5 : ¬ pi5 < 0 ∧ ¬ (255 : Int32) < pi5) (rg_pi6 : ¬ pi6 < 0 ∧ ¬ (255 : Int32) < pi6) (rg_pi7 : ¬ pi7 < 0 ∧ ¬ (255 : Int32) < pi7) (rg_pi8 : ¬ pi8 < 0 ∧ ¬ (255 : Int32) < pi8) (rg_pi9 : ¬ pi9 < 0 ∧ ¬ (255 : Int32) < pi9) (rg_pi10 : ¬ pi10 < 0 ∧ ¬ (255 : Int32) < pi10) (rg_pi11 : ¬ pi11 < 0 ∧ ¬ (255 : Int32) < pi11) (rg_pi12 : ¬ pi12 < 0 ∧ ¬ (255 : Int32) < pi12) (rg_pi13 : ¬ pi13 < 0 ∧ ¬ (255 : Int32) < pi13) (rg_pi14 : ¬ pi14 < 0 ∧ ¬ (255 : Int32) < pi14) (rg_pi15 : ¬ pi15 < 0 ∧ ¬ (255 : Int32) < pi15) (rg_pi16 : ¬ pi16 < 0 ∧ ¬ (255 : Int32) < pi16) (rg_pi17 : ¬ pi17 < 0 ∧ ¬ (255 : Int32) < pi17) (rg_pi18 : ¬ pi18 < 0 ∧ ¬ (255 : Int32) < pi18) (rg_pi19 : ¬ pi19 < 0 ∧ ¬ (255 : Int32) < pi19) (rg_pi20 : ¬ pi20 < 0 ∧ ¬ (255 : Int32) < pi20) (rg_pi21 : ¬ pi21 < 0 ∧ ¬ (255 : Int32) < pi21) (rg_pi22 : ¬ pi22 < 0 ∧ ¬ (255 : Int32) < pi22) (pc_0 : ¬ pi100 = (0 : Int32)) (pc_1 : ¬ pi100 = (1 : Int32)) (pc_2 : ¬ pi100 = (2 : Int32)) (pc_3 : pi100 = (3 : Int32)) : M10 G 4 3 14 66 #[.ref pa1, .int pi100] h0 n0 [] [] (Q29 Z pi1 pi2 pi3 pi4 pi5 h0) := by
  refine mi B10 ef0 (hEW G) fun s X0 hsf0 n0le => ?_
  have l1 := F0.l
  refine oI 1 X0 d10_0 rfl rfl <| oy 7 X0 d10_1 (by decide) ((if0 _ _).trans (feq pc_0).2) <| oI 8 X0 d10_7 rfl rfl <| oc 9 (v := 1) X0 d10_8 rfl (by decide) <| oY 41 X0 d10_9 (by decide) (feq pc_1).2 <| oI 42 X0 d10_41 rfl rfl <| oc 43 (v := 2) X0 d10_42 rfl (by decide) <| oY 81 X0 d10_43 (by decide) (feq pc_2).2 <| oI 82 X0 d10_81 rfl rfl <| oc 83 (v := 3) X0 d10_82 rfl (by decide) <| oN 86 X0 d10_83 rfl (teq pc_3).2 <| o_new 89 X0 (w52 G) (w2 G) (w1 G) d10_86 rfl (by decide) (by decide) ?_
  intro _ h1 b1 X1 _ l1 E1 A1 D1 _ _ S1
  have f2 : fd1 Z h1 b1 .null := D1 (Or.inr (w4 G)) fd_0
  have f3 : fd0 Z h1 b1 (.int 0) := D1 (Or.inr (w5 G)) fd_1
  refine oD 90 X1 d10_89 rfl rfl <| oc 91 (v := 5) X1 d10_90 rfl (by decide) <| nP (aty := .char) 93 5 X1 (w9 G) d10_91 rfl (by decide) had_char ?_
  intro _ h4 b4 k4 X4 _ _ E4 V4 A4 C4 _
  have V5 : av1 Z h4 b4 k4 5 [i0, i0, i0, i0, i0] := V4.pad (pad_rep [] (.int (0 : Int32)) 5)
  refine oD 94 X4 d10_93 rfl rfl <| oc 95 (v := 0) X4 d10_94 rfl (by decide) <| oA 96 X4 d10_95 rfl rfl <| oc 97 (v := 0) X4 d10_96 rfl (by decide) ?_
  have f6 := (F0.ext E1).ext E4
  refine oC 98 (v := (.int pi1)) X4 f6 ⟨by decide, by decide⟩ rfl d10_97 rfl <| sC 99 0 pi1 X4 V5 (by decide) (lb rfl) (own_narC rg_pi1) d10_98 rfl (by omega) (Or.inr (by omega)) (sx X4 A4 nc0) ?_
  rintro _ _ X7 ⟨_, _, W7⟩ C7 V7
  have := W7.size
  have V8 := V7.as [.int pi1, i0, i0, i0, i0] rfl
  refine oD 100 X7 d10_99 rfl rfl <| oc 101 (v := 1) X7 d10_100 rfl (by decide) <| oA 102 X7 d10_101 rfl rfl <| oc 103 (v := 1) X7 d10_102 rfl (by decide) ?_
  have f9 := f6.oth W7 (by omega)
  refine oC 104 (v := (.int pi2)) X7 f9 ⟨by decide, by decide⟩ rfl d10_103 rfl ?_
  have f11 := A4.wr W7
  refine sC 105 1 pi2 X7 V8 (by decide) (lb rfl) (own_narC rg_pi2) d10_104 rfl (by omega) (Or.inr (by omega)) (sx X7 f11 nc0) ?_
  rintro _ _ X10 ⟨_, _, W10⟩ C10 V10
  have := W10.size
  have V12 := V10.as [.int pi1, .int pi2, i0, i0, i0] rfl
  refine oD 106 X10 d10_105 rfl rfl <| oc 107 (v := 2) X10 d10_106 rfl (by decide) <| oA 108 X10 d10_107 rfl rfl <| oc 109 (v := 2) X10 d10_108 rfl (by decide) ?_
  have f13 := f9.oth W10 (by omega)
  refine oC 110 (v := (.int pi3)) X10 f13 ⟨by decide, by decide⟩ rfl d10_109 rfl ?_
  have f15 := f11.wr W10
  refine sC 111 2 pi3 X10 V12 (by decide) (lb rfl) (own_narC rg_pi3) d10_110 rfl (by omega) (Or.inr (by omega)) (sx X10 f15 nc0) ?_
  rintro _ _ X14 ⟨_, _, W14⟩ C14 V14
  have := W14.size
  have V16 := V14.as [.int pi1, .int pi2, .int pi3, i0, i0] rfl
  refine oD 112 X14 d10_111 rfl rfl <| oc 113 (v := 3) X14 d10_112 rfl (by decide) <| oA 114 X14 d10_113 rfl rfl <| oc 115 (v := 3) X14 d10_114 rfl (by decide) ?_
  have f17 := f13.oth W14 (by omega)
  refine oC 116 (v := (.int pi4)) X14 f17 ⟨by decide, by decide⟩ rfl d10_115 rfl ?_
  have f19 := f15.wr W14
  refine sC 117 3 pi4 X14 V16 (by decide) (lb rfl) (own_narC rg_pi4) d10_116 rfl (by omega) (Or.inr (by omega)) (sx X14 f19 nc0) ?_
  rintro _ _ X18 ⟨_, _, W18⟩ C18 V18
  have := W18.size
  have V20 := V18.as [.int pi1, .int pi2, .int pi3, .int pi4, i0] rfl
  refine oD 118 X18 d10_117 rfl rfl <| oc 119 (v := 4) X18 d10_118 rfl (by decide) <| oA 120 X18 d10_119 rfl rfl <| oc 121 (v := 4) X18 d10_120 rfl (by decide) ?_
  have f21 := f17.oth W18 (by omega)
  refine oC 122 (v := (.int pi5)) X18 f21 ⟨by decide, by decide⟩ rfl d10_121 rfl ?_
  have f23 := f19.wr W18
  refine sC 123 4 pi5 X18 V20 (by decide) (lb rfl) (own_narC rg_pi5) d10_122 rfl (by omega) (Or.inr (by omega)) (sx X18 f23 nc0) ?_
  rintro _ _ X22 ⟨_, _, W22⟩ C22 V22
  have := W22.size
  have V24 := V22.as [.int pi1, .int pi2, .int pi3, .int pi4, .int pi5] rfl
  have f25 := (((((A1.ext E4).wr W7).wr W10).wr W14).wr W18).wr W22
  have f26 := (((((f3.ext E4).oth W7 (by omega)).oth W10 (by omega)).oth W14 (by omega)).oth W18 (by omega)).oth W22 (by omega)
  have f27 := (((((f2.ext E4).oth W7 (by omega)).oth W10 (by omega)).oth W14 (by omega)).oth W18 (by omega)).oth W22 (by omega)
  have f28 := C22.safe (own_lt (by omega)) (C18.safe (own_lt (by omega)) (C14.safe (own_lt (by omega)) (C10.safe (own_lt (by omega)) (C7.safe (own_lt (by omega)) (C4.safe (own_lt (by omega)) S1)))))
  refine mP 126 1 X22 (rm_au58 G f25 f26 f27 V24 rg_pi1 rg_pi2 rg_pi3 rg_pi4 rg_pi5 (by omega)) (u21 G) (sS (by omega) f28 all0) d10_123 rfl rfl rfl lr (by decide) (aR (by omega) all0) ?_
  rintro _ _ _ _ X29 ⟨xa1_30, xk1_31, rfl, q32, q33, q34, q35, q36, q37, _⟩ _ _ C29
  have f39 := C29.safe (own_lt (by omega)) f28
  exact oR X29 d10_126 rfl rfl rfl (by decide) (by decide) (fun _ CC => ⟨b1, xa1_30, xk1_31, rfl, q32, q33, q34, (CC.safe (own_lt (by omega)) f39), q35, q36, (CC.safe (own_lt (by omega)) q37), by omega⟩)
theorem rm_au60 (F0 : fd0 Z h0 pa1 (.int 0)) (F1 : fd1 Z h0 pa1 (.ref pa3)) (F2 : ex0 Z h0 pa2) (F3 : fd0 Z h0 pa2 (.int 0)) (F4 : fd1 Z h0 pa2 (.ref pa4)) (F5 : av0 Z h0 pa3 pk1 5 [.int pi1, .int pi2, .int pi3, .int pi4, .int pi5]) (F6 : av0 Z h0 pa4 pk2 5 [.int 103, .int 114, .int 111, .int 117, .int 112]) (pc_k0 : (oEq [pi1, pi2, pi3, pi4, pi5] [103, 114, 111, 117, 112]) = (0 : Int32)) (ne : NE pa1 pa2) : M12 G 1 0 0 14 #[.ref pa1, .ref pa2] h0 n0 [] [] (Q4 Z  h0) := by
  refine mi B12 ef5 (hEW G) fun s X0 hsf0 n0le => ?_
  have := F0.l
  have := F2.l
  have := F5.l
  have := F6.l
  refine oA 1 X0 d12_0 rfl rfl <| oA 2 X0 d12_1 rfl rfl <| o_acmp 7 (same := false) X0 d12_2 rfl rfl (decide_eq_false (fun q => absurd (Value.ref.inj q) (own_ne (by omega)))) (by decide) (by decide) <| oA 8 X0 d12_7 rfl rfl <| o_instY 11 X0 (w81 G) (Ins.self F2) d12_8 rfl ?_
  intro _ X2
  refine on 14 X2 d12_11 rfl ((if0 _ _).trans (feq (by decide)).1) <| oA 15 X2 d12_14 rfl rfl <| o_castY 18 X2 (w81 G) (Ins.self F2) d12_15 rfl ?_
  intro _ X4
  refine oV 19 (l' := #[rr pa1, rr pa2, rr pa2]) X4 d12_18 rfl rfl rfl <| oG 22 X4 (w25 G) Via.refl ((sg15 G).ext X4.old.2) d12_19 rfl ?_
  intro _ X6
  refine on 25 X6 d12_22 rfl ((if0 _ _).trans (feq (hzc G)).1) <| oA 26 X6 d12_25 rfl rfl <| oF 29 X6 (w26 G) Via.refl F0 d12_26 rfl ?_
  intro _ X8
  refine oA 30 X8 d12_29 rfl rfl <| oF 33 X8 (w26 G) Via.refl F3 d12_30 rfl ?_
  intro _ X10
  refine oN 36 X10 d12_33 rfl (teq (by decide)).2 <| oA 37 X10 d12_36 rfl rfl <| oF 40 X10 (w19 G) Via.refl F1 d12_37 rfl ?_
  intro _ X12
  refine oA 41 X12 d12_40 rfl rfl <| oF 44 X12 (w19 G) Via.refl F4 d12_41 rfl ?_
  intro _ X14
  refine mS 47 0 X14 (rm_eqA_g G F5 F6) (u9 G) all0 d12_44 rfl rfl rfl lr (by decide) all0 ?_
  rintro _ _ _ _ X15 rfl _ _ _
  refine oy 54 X15 d12_47 (by decide) ((if0 _ _).trans (teq pc_k0).1) <| oc 55 (v := 0) X15 d12_54 rfl (by decide) ?_
  exact o_nret (y := (0 : Int32)) (t := .boolean) X15 d12_55 rfl (by decide) (by simp) (by decide) (by decide) (fun _ CC => rfl)
theorem rm_au61 (F0 : ex0 Z h0 pa1) (F1 : fd0 Z h0 pa1 (.int 0)) (F2 : fd1 Z h0 pa1 (.ref pa2)) (F3 : av0 Z h0 pa2 pk1 5 [.int pi1, .int pi2, .int pi3, .int pi4, .int pi5]) (F4 : ex3 Z h0 pa2) (pc_k0 : (oEq [pi1, pi2, pi3, pi4, pi5] [103, 114, 111, 117, 112]) = (0 : Int32)) : M11 G 2 8 152 28 #[.ref pa1] h0 n0 [] [pa1, pa2] (Q13 Z  h0) := by
  have hw := G.1
  refine mi B11 ef3 (hEW G) fun s X0 hsf0 n0le => ?_
  have := F0.l
  have := F3.l
  have sf_pa1 := hsf0 pa1 (by simp)
  have sf_pa2 := hsf0 pa2 (by simp)
  refine oA 1 X0 d11_0 rfl rfl <| o_ldcC 3 (n := 16) (vs := own_bs ([117, 115, 101, 114] : List Int32)) (z := (4 : Int32)) X0 (w0 G) (hws_str hw) (by decide) ⟨by decide, rfl⟩ (by decide) (by decide) d11_1 rfl (by decide) (by decide) (by decide) (by decide) ?_
  intro a1 b1 kb1 _ h1 _ X1 E1 C1 Es1 Cs1 Vs1 As1 SF1
  have lta1 : h1.size > a1 := Es1.lt
  have ltb1 : h1.size > b1 := As1.lt
  have := E1.1
  have Bs1 : av0 Z h1 b1 kb1 4 [.int 117, .int 115, .int 101, .int 114] := As1
  have f3 := C1.safe (own_lt (by omega)) sf_pa1
  have := own_nes (SF1 pa1 f3)
  have f5 := C1.safe (own_lt (by omega)) sf_pa2
  have := own_nes (SF1 pa2 f5)
  have f6 := F1.ext E1
  have f7 := F2.ext E1
  have f8 := F3.ext E1
  have f9 := F0.ext E1
  refine mV 6 0 X1 f9 (rm_au13 G f6 f7 Es1 Cs1 Vs1 f8 Bs1 (by decide) (by decide) (by omega)) (u10 G) all0 d11_3 rfl rfl rfl lr (by decide) all0 ?_
  rintro _ _ _ _ X10 rfl K10 _ C10
  refine oy 13 X10 d11_6 (by decide) ((if0 _ _).trans (teq (by decide)).1) <| oA 14 X10 d11_13 rfl rfl <| o_ldcC 16 (n := 16) (vs := own_bs ([114, 111, 108, 101] : List Int32)) (z := (4 : Int32)) X10 (w85 G) (hws_str hw) (by decide) ⟨by decide, rfl⟩ (by decide) (by decide) d11_14 rfl (by decide) (by decide) (by decide) (by decide) ?_
  intro a11 b11 kb11 _ h11 _ X11 E11 C11 Es11 Cs11 Vs11 As11 SF11
  have lta11 : h11.size > a11 := Es11.lt
  have ltb11 : h11.size > b11 := As11.lt
  have := E11.1
  have Bs11 : av0 Z h11 b11 kb11 4 [.int 114, .int 111, .int 108, .int 101] := As11
  have f13 := C11.safe (own_lt (by omega)) (C10.safe (own_lt (by omega)) f3)
  have := own_nes (SF11 pa1 f13)
  have f15 := C11.safe (own_lt (by omega)) (C10.safe (own_lt (by omega)) f5)
  have := own_nes (SF11 pa2 f15)
  have f16 := (f6.k0 K10).ext E11
  have f17 := (f7.k0 K10).ext E11
  have f18 := (f8.k0 K10).ext E11
  have f19 := (f9.keep K10).ext E11
  refine mV 19 0 X11 f19 (rm_au13 G f16 f17 Es11 Cs11 Vs11 f18 Bs11 (by decide) (by decide) (by omega)) (u10 G) all0 d11_16 rfl rfl rfl lr (by decide) all0 ?_
  rintro _ _ _ _ X20 rfl K20 _ C20
  refine oy 26 X20 d11_19 (by decide) ((if0 _ _).trans (teq (by decide)).1) <| oA 27 X20 d11_26 rfl rfl <| o_ldcC 29 (n := 20) (vs := own_bs ([103, 114, 111, 117, 112] : List Int32)) (z := (5 : Int32)) X20 (w86 G) (hws_str hw) (by decide) ⟨by decide, rfl⟩ (by decide) (by decide) d11_27 rfl (by decide) (by decide) (by decide) (by decide) ?_
  intro a21 b21 kb21 _ h21 _ X21 E21 C21 Es21 Cs21 Vs21 As21 SF21
  have lta21 : h21.size > a21 := Es21.lt
  have ltb21 : h21.size > b21 := As21.lt
  have := E21.1
  have Bs21 : av0 Z h21 b21 kb21 5 [.int 103, .int 114, .int 111, .int 117, .int 112] := As21
  have f23 := (((Vs1.k0 K10).ext E11).k0 K20).ext E21
  have f24 := (((Bs1.k0 K10).ext E11).k0 K20).ext E21
  have := own_neL f23 f24 Vs21 As21 (by decide)
  have f26 := (Vs11.k0 K20).ext E21
  have f27 := (Bs11.k0 K20).ext E21
  have := own_neL f26 f27 Vs21 As21 (by decide)
  have f29 := C21.safe (own_lt (by omega)) (C20.safe (own_lt (by omega)) f13)
  have := own_nes (SF21 pa1 f29)
  have f31 := C21.safe (own_lt (by omega)) (C20.safe (own_lt (by omega)) f15)
  have := own_nes (SF21 pa2 f31)
  have f32 := (f16.k0 K20).ext E21
  have f33 := (f17.k0 K20).ext E21
  have f34 := (f18.k0 K20).ext E21
  have f35 := (f19.keep K20).ext E21
  refine mV 32 0 X21 f35 (rm_au60 G f32 f33 Es21 Cs21 Vs21 f34 Bs21 pc_k0 (by omega)) (u10 G) all0 d11_29 rfl rfl rfl lr (by decide) all0 ?_
  rintro _ _ _ _ X36 rfl K36 _ C36
  refine oy 39 X36 d11_32 (by decide) ((if0 _ _).trans (teq (by decide)).1) <| oA 40 X36 d11_39 rfl rfl <| o_ldcC 42 (n := 84) (vs := own_bs ([114, 111, 108, 101, 45, 97, 110, 100, 45, 115, 117, 98, 111, 114, 100, 105, 110, 97, 116, 101, 115] : List Int32)) (z := (21 : Int32)) X36 (w87 G) (hws_str hw) (by decide) ⟨by decide, rfl⟩ (by decide) (by decide) d11_40 rfl (by decide) (by decide) (by decide) (by decide) ?_
  intro a37 b37 kb37 _ h37 _ X37 E37 C37 Es37 Cs37 Vs37 As37 SF37
  have lta37 : h37.size > a37 := Es37.lt
  have ltb37 : h37.size > b37 := As37.lt
  have := E37.1
  have Bs37 : av0 Z h37 b37 kb37 21 [.int 114, .int 111, .int 108, .int 101, .int 45, .int 97, .int 110, .int 100, .int 45, .int 115, .int 117, .int 98, .int 111, .int 114, .int 100, .int 105, .int 110, .int 97, .int 116, .int 101, .int 115] := As37
  have f39 := (f23.k0 K36).ext E37
  have f40 := (f24.k0 K36).ext E37
  have := own_neL f39 f40 Vs37 As37 (by decide)
  have f42 := (f26.k0 K36).ext E37
  have f43 := (f27.k0 K36).ext E37
  have := own_neL f42 f43 Vs37 As37 (by decide)
  have f45 := (Vs21.k0 K36).ext E37
  have f46 := (Bs21.k0 K36).ext E37
  have := own_neL f45 f46 Vs37 As37 (by decide)
  have f48 := C37.safe (own_lt (by omega)) (C36.safe (own_lt (by omega)) f29)
  have := own_nes (SF37 pa1 f48)
  have f50 := C37.safe (own_lt (by omega)) (C36.safe (own_lt (by omega)) f31)
  have := own_nes (SF37 pa2 f50)
  have f51 := (f32.k0 K36).ext E37
  have f52 := (f33.k0 K36).ext E37
  have f53 := (f34.k0 K36).ext E37
  have f54 := (f35.keep K36).ext E37
  refine mV 45 0 X37 f54 (rm_au13 G f51 f52 Es37 Cs37 Vs37 f53 Bs37 (by decide) (by decide) (by omega)) (u10 G) all0 d11_42 rfl rfl rfl lr (by decide) all0 ?_
  rintro _ _ _ _ X55 rfl _ _ _
  refine oy 52 X55 d11_45 (by decide) ((if0 _ _).trans (teq (by decide)).1) <| o_aconstNull 53 X55 d11_52 rfl ?_
  exact oR X55 d11_53 rfl rfl rfl (by decide) (by decide) (fun _ CC => rfl)
theorem rm_au62 (F0 : ex0 Z h0 pa1) (F1 : fd0 Z h0 pa1 (.int pi100)) (F2 : fd1 Z h0 pa1 (.ref pa2)) (F3 : av0 Z h0 pa2 pk1 5 [.int pi1, .int pi2, .int pi3, .int pi4, .int pi5]) (pc_k0 : (oEq [pi1, pi2, pi3, pi4, pi5] [103, 114, 111, 117, 112]) = (0 : Int32)) (pc_0 : (0 : Int32) = pi100) (ne : NE su4 pa1) : M12 G 1 0 0 14 #[.ref su4, .ref pa1] h0 n0 [] [] (Q4 Z  h0) := by
  refine mi B12 ef5 (hEW G) fun s X0 hsf0 n0le => ?_
  have := F0.l
  have := F3.l
  have gl_su4 := ltg_su4 G X0.old
  refine oA 1 X0 d12_0 rfl rfl <| oA 2 X0 d12_1 rfl rfl <| o_acmp 7 (same := false) X0 d12_2 rfl rfl (decide_eq_false (fun q => absurd (Value.ref.inj q) (own_ne (by omega)))) (by decide) (by decide) <| oA 8 X0 d12_7 rfl rfl <| o_instY 11 X0 (w81 G) (Ins.self F0) d12_8 rfl ?_
  intro _ X2
  refine on 14 X2 d12_11 rfl ((if0 _ _).trans (feq (by decide)).1) <| oA 15 X2 d12_14 rfl rfl <| o_castY 18 X2 (w81 G) (Ins.self F0) d12_15 rfl ?_
  intro _ X4
  refine oV 19 (l' := #[rr su4, rr pa1, rr pa1]) X4 d12_18 rfl rfl rfl <| oG 22 X4 (w25 G) Via.refl ((sg15 G).ext X4.old.2) d12_19 rfl ?_
  intro _ X6
  refine on 25 X6 d12_22 rfl ((if0 _ _).trans (feq (hzc G)).1) <| oA 26 X6 d12_25 rfl rfl ?_
  have f7 := (C_su4 G).ext X6.old.2
  refine oF 29 X6 (w26 G) Via.refl f7 d12_26 rfl ?_
  intro _ X9
  refine oA 30 X9 d12_29 rfl rfl <| oF 33 X9 (w26 G) Via.refl F1 d12_30 rfl ?_
  intro _ X11
  refine oN 36 X11 d12_33 rfl (teq pc_0).2 <| oA 37 X11 d12_36 rfl rfl ?_
  have f12 := (F_su4 G).ext X11.old.2
  refine oF 40 X11 (w19 G) Via.refl f12 d12_37 rfl ?_
  intro _ X14
  refine oA 41 X14 d12_40 rfl rfl <| oF 44 X14 (w19 G) Via.refl F2 d12_41 rfl ?_
  intro _ X16
  refine mS 47 0 X16 (rm_eqB_g G F3) (u9 G) all0 d12_44 rfl rfl rfl lr (by decide) all0 ?_
  rintro _ _ _ _ X17 rfl _ _ _
  refine oy 54 X17 d12_47 (by decide) ((if0 _ _).trans (teq pc_k0).1) <| oc 55 (v := 0) X17 d12_54 rfl (by decide) ?_
  exact o_nret (y := (0 : Int32)) (t := .boolean) X17 d12_55 rfl (by decide) (by simp) (by decide) (by decide) (fun _ CC => rfl)
theorem rm_au63 (F0 : ex0 Z h0 pa1) (F1 : fd0 Z h0 pa1 (.int 0)) (F2 : fd1 Z h0 pa1 (.ref pa2)) (F3 : av0 Z h0 pa2 pk1 5 [.int pi1, .int pi2, .int pi3, .int pi4, .int pi5]) (pc_k0 : (oEq [pi1, pi2, pi3, pi4, pi5] [103, 114, 111, 117, 112]) = (0 : Int32)) (ne : NE su1 pa1 ∧ NE su2 pa1 ∧ NE su3 pa1 ∧ NE su4 pa1) : M13 G 2 1 4 28 #[.ref pa1] h0 n0 [] [] (Q15 Z oem h0) := by
  refine mi B13 ef7 (hEW G) fun s X0 hsf0 n0le => ?_
  have := F0.l
  have := F3.l
  have gl_su1 := ltg_su1 G X0.old
  have gl_su2 := ltg_su2 G X0.old
  have gl_su3 := ltg_su3 G X0.old
  have gl_su4 := ltg_su4 G X0.old
  refine mS 3 0 X0 (rm_au15 G ) (u12 G) all0 d13_0 rfl rfl rfl lr (by decide) all0 ?_
  rintro _ _ _ _ X1 ⟨xa1_2, rfl, q3, _, _⟩ K1 _ _
  refine oV 4 (l' := #[rr pa1, rr xa1_2, uu, uu, uu]) X1 d13_3 rfl rfl rfl <| oA 5 X1 d13_4 rfl rfl <| oL 6 X1 q3 d13_5 rfl <| oT 7 (l' := #[rr pa1, rr xa1_2, ii 4, uu, uu]) X1 d13_6 rfl rfl <| oc 8 (v := 0) X1 d13_7 rfl (by decide) <| oT 9 (l' := #[rr pa1, rr xa1_2, ii 4, ii 0, uu]) X1 d13_8 rfl rfl <| oI 10 X1 d13_9 rfl rfl <| oI 11 X1 d13_10 rfl rfl <| oN 14 X1 d13_11 rfl (tlt (by decide)).2.1 <| oA 15 X1 d13_14 rfl rfl <| oI 16 X1 d13_15 rfl rfl <| o_aaload 17 (v := (.ref ku1)) X1 q3 rfl ⟨by decide, by decide⟩ rfl d13_16 rfl ?_
  refine oU 19 (l' := #[rr pa1, rr xa1_2, ii 4, ii 0, rr ku1]) X1 d13_17 rfl rfl rfl <| oa 21 X1 d13_19 rfl rfl ?_
  have f6 := (F_ku1 G).ext X1.old.2
  refine oF 24 X1 (w111 G) Via.refl f6 d13_21 rfl ?_
  intro _ X8
  refine oA 25 X8 d13_24 rfl rfl ?_
  have f9 := (C_su1 G).ext X8.old.2
  have f10 := (F_su1 G).ext X8.old.2
  have f11 := F0.keep K1
  have f12 := F1.k0 K1
  have f13 := F2.k0 K1
  have f14 := (sg0 G).ext X8.old.2
  have f15 := F3.k0 K1
  have f16 := (sg10 G).ext X8.old.2
  refine mV 28 0 X8 f16 (rm_au13 G f9 f10 f11 f12 f13 f14 f15 (by decide) (by decide) (by omega)) (u13 G) all0 d13_25 rfl rfl rfl lr (by decide) all0 ?_
  rintro _ _ _ _ X17 rfl K17 _ _
  refine oy 37 X17 d13_28 (by decide) ((if0 _ _).trans (teq (by decide)).1) <| oJ 40 1 #[rr pa1, rr xa1_2, ii 4, ii 1, rr ku1] X17 d13_37 rfl rfl (by decide) rfl <| og 9 X17 d13_40 (by decide) <| oI 10 X17 d13_9 rfl rfl <| oI 11 X17 d13_10 rfl rfl <| oN 14 X17 d13_11 rfl (tlt (by decide)).2.1 <| oA 15 X17 d13_14 rfl rfl <| oI 16 X17 d13_15 rfl rfl ?_
  have f18 := q3.k0 K17
  refine o_aaload 17 (v := (.ref ku2)) X17 f18 rfl ⟨by decide, by decide⟩ rfl d13_16 rfl <| oU 19 (l' := #[rr pa1, rr xa1_2, ii 4, ii 1, rr ku2]) X17 d13_17 rfl rfl rfl <| oa 21 X17 d13_19 rfl rfl ?_
  have f19 := (F_ku2 G).ext X17.old.2
  refine oF 24 X17 (w111 G) Via.refl f19 d13_21 rfl ?_
  intro _ X21
  refine oA 25 X21 d13_24 rfl rfl ?_
  have f22 := (C_su2 G).ext X21.old.2
  have f23 := (F_su2 G).ext X21.old.2
  have f24 := f11.keep K17
  have f25 := f12.k0 K17
  have f26 := f13.k0 K17
  have f27 := (sg1 G).ext X21.old.2
  have f28 := f15.k0 K17
  have f29 := (sg11 G).ext X21.old.2
  refine mV 28 0 X21 f29 (rm_au13 G f22 f23 f24 f25 f26 f27 f28 (by decide) (by decide) (by omega)) (u13 G) all0 d13_25 rfl rfl rfl lr (by decide) all0 ?_
  rintro _ _ _ _ X30 rfl K30 _ _
  refine oy 37 X30 d13_28 (by decide) ((if0 _ _).trans (teq (by decide)).1) <| oJ 40 2 #[rr pa1, rr xa1_2, ii 4, ii 2, rr ku2] X30 d13_37 rfl rfl (by decide) rfl <| og 9 X30 d13_40 (by decide) <| oI 10 X30 d13_9 rfl rfl <| oI 11 X30 d13_10 rfl rfl <| oN 14 X30 d13_11 rfl (tlt (by decide)).2.1 <| oA 15 X30 d13_14 rfl rfl <| oI 16 X30 d13_15 rfl rfl ?_
  have f31 := f18.k0 K30
  refine o_aaload 17 (v := (.ref ku3)) X30 f31 rfl ⟨by decide, by decide⟩ rfl d13_16 rfl <| oU 19 (l' := #[rr pa1, rr xa1_2, ii 4, ii 2, rr ku3]) X30 d13_17 rfl rfl rfl <| oa 21 X30 d13_19 rfl rfl ?_
  have f32 := (F_ku3 G).ext X30.old.2
  refine oF 24 X30 (w111 G) Via.refl f32 d13_21 rfl ?_
  intro _ X34
  refine oA 25 X34 d13_24 rfl rfl ?_
  have f35 := (C_su3 G).ext X34.old.2
  have f36 := (F_su3 G).ext X34.old.2
  have f37 := f24.keep K30
  have f38 := f25.k0 K30
  have f39 := f26.k0 K30
  have f40 := (sg2 G).ext X34.old.2
  have f41 := f28.k0 K30
  have f42 := (sg12 G).ext X34.old.2
  refine mV 28 0 X34 f42 (rm_au13 G f35 f36 f37 f38 f39 f40 f41 (by decide) (by decide) (by omega)) (u13 G) all0 d13_25 rfl rfl rfl lr (by decide) all0 ?_
  rintro _ _ _ _ X43 rfl K43 _ _
  refine oy 37 X43 d13_28 (by decide) ((if0 _ _).trans (teq (by decide)).1) <| oJ 40 3 #[rr pa1, rr xa1_2, ii 4, ii 3, rr ku3] X43 d13_37 rfl rfl (by decide) rfl <| og 9 X43 d13_40 (by decide) <| oI 10 X43 d13_9 rfl rfl <| oI 11 X43 d13_10 rfl rfl <| oN 14 X43 d13_11 rfl (tlt (by decide)).2.1 <| oA 15 X43 d13_14 rfl rfl <| oI 16 X43 d13_15 rfl rfl ?_
  have f44 := f31.k0 K43
  refine o_aaload 17 (v := (.ref ku4)) X43 f44 rfl ⟨by decide, by decide⟩ rfl d13_16 rfl <| oU 19 (l' := #[rr pa1, rr xa1_2, ii 4, ii 3, rr ku4]) X43 d13_17 rfl rfl rfl <| oa 21 X43 d13_19 rfl rfl ?_
  have f45 := (F_ku4 G).ext X43.old.2
  refine oF 24 X43 (w111 G) Via.refl f45 d13_21 rfl ?_
  intro _ X47
  refine oA 25 X47 d13_24 rfl rfl ?_
  have f48 := f37.keep K43
  have f49 := f38.k0 K43
  have f50 := f39.k0 K43
  have f51 := f41.k0 K43
  have f52 := (sg13 G).ext X47.old.2
  refine mV 28 0 X47 f52 (rm_au62 G f48 f49 f50 f51 pc_k0 (by decide) (by omega)) (u13 G) all0 d13_25 rfl rfl rfl lr (by decide) all0 ?_
  rintro _ _ _ _ X53 rfl _ _ _
  refine oy 37 X53 d13_28 (by decide) ((if0 _ _).trans (teq (by decide)).1) <| oJ 40 4 #[rr pa1, rr xa1_2, ii 4, ii 4, rr ku4] X53 d13_37 rfl rfl (by decide) rfl <| og 9 X53 d13_40 (by decide) <| oI 10 X53 d13_9 rfl rfl <| oI 11 X53 d13_10 rfl rfl <| oY 43 X53 d13_11 (by decide) (flt (by decide)).2.1 <| mS 46 0 X53 (rm_au16 G ) (u14 G) all0 d13_43 rfl rfl rfl lr (by decide) all0 ?_
  rintro _ _ _ _ X54 rfl _ _ _
  exact oR X54 d13_46 rfl rfl rfl (by decide) (by decide) (fun _ CC => rfl)
theorem rm_au64 (F0 : fd0 Z h0 pa1 (.int 0)) (F1 : fd1 Z h0 pa1 (.ref pa3)) (F2 : ex0 Z h0 pa2) (F3 : fd0 Z h0 pa2 (.int 0)) (F4 : fd1 Z h0 pa2 (.ref pa4)) (F5 : av0 Z h0 pa3 pk1 5 [.int pi1, .int pi2, .int pi3, .int pi4, .int pi5]) (F6 : av0 Z h0 pa4 pk2 5 [.int 103, .int 114, .int 111, .int 117, .int 112]) (pc_k0 : ¬ (oEq [pi1, pi2, pi3, pi4, pi5] [103, 114, 111, 117, 112]) = (0 : Int32)) (ne : NE pa1 pa2) : M12 G 1 0 0 14 #[.ref pa1, .ref pa2] h0 n0 [] [] (Q3 Z  h0) := by
  refine mi B12 ef5 (hEW G) fun s X0 hsf0 n0le => ?_
  have := F0.l
  have := F2.l
  have := F5.l
  have := F6.l
  refine oA 1 X0 d12_0 rfl rfl <| oA 2 X0 d12_1 rfl rfl <| o_acmp 7 (same := false) X0 d12_2 rfl rfl (decide_eq_false (fun q => absurd (Value.ref.inj q) (own_ne (by omega)))) (by decide) (by decide) <| oA 8 X0 d12_7 rfl rfl <| o_instY 11 X0 (w81 G) (Ins.self F2) d12_8 rfl ?_
  intro _ X2
  refine on 14 X2 d12_11 rfl ((if0 _ _).trans (feq (by decide)).1) <| oA 15 X2 d12_14 rfl rfl <| o_castY 18 X2 (w81 G) (Ins.self F2) d12_15 rfl ?_
  intro _ X4
  refine oV 19 (l' := #[rr pa1, rr pa2, rr pa2]) X4 d12_18 rfl rfl rfl <| oG 22 X4 (w25 G) Via.refl ((sg15 G).ext X4.old.2) d12_19 rfl ?_
  intro _ X6
  refine on 25 X6 d12_22 rfl ((if0 _ _).trans (feq (hzc G)).1) <| oA 26 X6 d12_25 rfl rfl <| oF 29 X6 (w26 G) Via.refl F0 d12_26 rfl ?_
  intro _ X8
  refine oA 30 X8 d12_29 rfl rfl <| oF 33 X8 (w26 G) Via.refl F3 d12_30 rfl ?_
  intro _ X10
  refine oN 36 X10 d12_33 rfl (teq (by decide)).2 <| oA 37 X10 d12_36 rfl rfl <| oF 40 X10 (w19 G) Via.refl F1 d12_37 rfl ?_
  intro _ X12
  refine oA 41 X12 d12_40 rfl rfl <| oF 44 X12 (w19 G) Via.refl F4 d12_41 rfl ?_
  intro _ X14
  refine mS 47 0 X14 (rm_eqA_g G F5 F6) (u9 G) all0 d12_44 rfl rfl rfl lr (by decide) all0 ?_
  rintro _ _ _ _ X15 rfl _ _ _
  refine on 50 X15 d12_47 rfl ((if0 _ _).trans (feq pc_k0).1) <| oc 51 (v := 1) X15 d12_50 rfl (by decide) <| og 55 X15 d12_51 (by decide) ?_
  exact o_nret (y := (1 : Int32)) (t := .boolean) X15 d12_55 rfl (by decide) (by simp) (by decide) (by decide) (fun _ CC => rfl)
theorem rm_au65 (F0 : ex0 Z h0 pa1) (F1 : fd0 Z h0 pa1 (.int 0)) (F2 : fd1 Z h0 pa1 (.ref pa2)) (F3 : av0 Z h0 pa2 pk1 5 [.int pi1, .int pi2, .int pi3, .int pi4, .int pi5]) (F4 : ex3 Z h0 pa2) (pc_k0 : ¬ (oEq [pi1, pi2, pi3, pi4, pi5] [103, 114, 111, 117, 112]) = (0 : Int32)) : M11 G 2 6 64 28 #[.ref pa1] h0 n0 [] [pa1, pa2] (Q15 Z ku4 h0) := by
  have hw := G.1
  refine mi B11 ef3 (hEW G) fun s X0 hsf0 n0le => ?_
  have := F0.l
  have := F3.l
  have sf_pa1 := hsf0 pa1 (by simp)
  have sf_pa2 := hsf0 pa2 (by simp)
  refine oA 1 X0 d11_0 rfl rfl <| o_ldcC 3 (n := 16) (vs := own_bs ([117, 115, 101, 114] : List Int32)) (z := (4 : Int32)) X0 (w0 G) (hws_str hw) (by decide) ⟨by decide, rfl⟩ (by decide) (by decide) d11_1 rfl (by decide) (by decide) (by decide) (by decide) ?_
  intro a1 b1 kb1 _ h1 _ X1 E1 C1 Es1 Cs1 Vs1 As1 SF1
  have lta1 : h1.size > a1 := Es1.lt
  have ltb1 : h1.size > b1 := As1.lt
  have := E1.1
  have Bs1 : av0 Z h1 b1 kb1 4 [.int 117, .int 115, .int 101, .int 114] := As1
  have f3 := C1.safe (own_lt (by omega)) sf_pa1
  have := own_nes (SF1 pa1 f3)
  have f5 := C1.safe (own_lt (by omega)) sf_pa2
  have := own_nes (SF1 pa2 f5)
  have f6 := F1.ext E1
  have f7 := F2.ext E1
  have f8 := F3.ext E1
  have f9 := F0.ext E1
  refine mV 6 0 X1 f9 (rm_au13 G f6 f7 Es1 Cs1 Vs1 f8 Bs1 (by decide) (by decide) (by omega)) (u10 G) all0 d11_3 rfl rfl rfl lr (by decide) all0 ?_
  rintro _ _ _ _ X10 rfl K10 _ C10
  refine oy 13 X10 d11_6 (by decide) ((if0 _ _).trans (teq (by decide)).1) <| oA 14 X10 d11_13 rfl rfl <| o_ldcC 16 (n := 16) (vs := own_bs ([114, 111, 108, 101] : List Int32)) (z := (4 : Int32)) X10 (w85 G) (hws_str hw) (by decide) ⟨by decide, rfl⟩ (by decide) (by decide) d11_14 rfl (by decide) (by decide) (by decide) (by decide) ?_
  intro a11 b11 kb11 _ h11 _ X11 E11 C11 Es11 Cs11 Vs11 As11 SF11
  have lta11 : h11.size > a11 := Es11.lt
  have ltb11 : h11.size > b11 := As11.lt
  have := E11.1
  have Bs11 : av0 Z h11 b11 kb11 4 [.int 114, .int 111, .int 108, .int 101] := As11
  have f13 := C11.safe (own_lt (by omega)) (C10.safe (own_lt (by omega)) f3)
  have := own_nes (SF11 pa1 f13)
  have f15 := C11.safe (own_lt (by omega)) (C10.safe (own_lt (by omega)) f5)
  have := own_nes (SF11 pa2 f15)
  have f16 := (f6.k0 K10).ext E11
  have f17 := (f7.k0 K10).ext E11
  have f18 := (f8.k0 K10).ext E11
  have f19 := (f9.keep K10).ext E11
  refine mV 19 0 X11 f19 (rm_au13 G f16 f17 Es11 Cs11 Vs11 f18 Bs11 (by decide) (by decide) (by omega)) (u10 G) all0 d11_16 rfl rfl rfl lr (by decide) all0 ?_
  rintro _ _ _ _ X20 rfl K20 _ C20
  refine oy 26 X20 d11_19 (by decide) ((if0 _ _).trans (teq (by decide)).1) <| oA 27 X20 d11_26 rfl rfl <| o_ldcC 29 (n := 20) (vs := own_bs ([103, 114, 111, 117, 112] : List Int32)) (z := (5 : Int32)) X20 (w86 G) (hws_str hw) (by decide) ⟨by decide, rfl⟩ (by decide) (by decide) d11_27 rfl (by decide) (by decide) (by decide) (by decide) ?_
  intro a21 b21 kb21 _ h21 _ X21 E21 C21 Es21 Cs21 Vs21 As21 SF21
  have lta21 : h21.size > a21 := Es21.lt
  have ltb21 : h21.size > b21 := As21.lt
  have := E21.1
  have Bs21 : av0 Z h21 b21 kb21 5 [.int 103, .int 114, .int 111, .int 117, .int 112] := As21
  have f23 := (((Vs1.k0 K10).ext E11).k0 K20).ext E21
  have f24 := (((Bs1.k0 K10).ext E11).k0 K20).ext E21
  have := own_neL f23 f24 Vs21 As21 (by decide)
  have f26 := (Vs11.k0 K20).ext E21
  have f27 := (Bs11.k0 K20).ext E21
  have := own_neL f26 f27 Vs21 As21 (by decide)
  have f29 := C21.safe (own_lt (by omega)) (C20.safe (own_lt (by omega)) f13)
  have := own_nes (SF21 pa1 f29)
  have f31 := C21.safe (own_lt (by omega)) (C20.safe (own_lt (by omega)) f15)
  have := own_nes (SF21 pa2 f31)
  have f32 := (f16.k0 K20).ext E21
  have f33 := (f17.k0 K20).ext E21
  have f34 := (f18.k0 K20).ext E21
  have f35 := (f19.keep K20).ext E21
  refine mV 32 0 X21 f35 (rm_au64 G f32 f33 Es21 Cs21 Vs21 f34 Bs21 pc_k0 (by omega)) (u10 G) all0 d11_29 rfl rfl rfl lr (by decide) all0 ?_
  rintro _ _ _ _ X36 rfl _ _ _
  refine on 35 X36 d11_32 rfl ((if0 _ _).trans (feq (by decide)).1) <| oG 38 X36 (w144 G) Via.refl ((sg20 G).ext X36.old.2) d11_35 rfl ?_
  intro _ X38
  exact oR X38 d11_38 rfl rfl rfl (by decide) (by decide) (fun _ CC => rfl)
theorem rm_au66 (F0 : ex0 Z h0 pa1) (F1 : fd0 Z h0 pa1 (.int pi100)) (F2 : fd1 Z h0 pa1 (.ref pa2)) (F3 : av0 Z h0 pa2 pk1 5 [.int pi1, .int pi2, .int pi3, .int pi4, .int pi5]) (pc_k0 : ¬ (oEq [pi1, pi2, pi3, pi4, pi5] [103, 114, 111, 117, 112]) = (0 : Int32)) (pc_0 : (0 : Int32) = pi100) (ne : NE su4 pa1) : M12 G 1 0 0 14 #[.ref su4, .ref pa1] h0 n0 [] [] (Q3 Z  h0) := by
  refine mi B12 ef5 (hEW G) fun s X0 hsf0 n0le => ?_
  have := F0.l
  have := F3.l
  have gl_su4 := ltg_su4 G X0.old
  refine oA 1 X0 d12_0 rfl rfl <| oA 2 X0 d12_1 rfl rfl <| o_acmp 7 (same := false) X0 d12_2 rfl rfl (decide_eq_false (fun q => absurd (Value.ref.inj q) (own_ne (by omega)))) (by decide) (by decide) <| oA 8 X0 d12_7 rfl rfl <| o_instY 11 X0 (w81 G) (Ins.self F0) d12_8 rfl ?_
  intro _ X2
  refine on 14 X2 d12_11 rfl ((if0 _ _).trans (feq (by decide)).1) <| oA 15 X2 d12_14 rfl rfl <| o_castY 18 X2 (w81 G) (Ins.self F0) d12_15 rfl ?_
  intro _ X4
  refine oV 19 (l' := #[rr su4, rr pa1, rr pa1]) X4 d12_18 rfl rfl rfl <| oG 22 X4 (w25 G) Via.refl ((sg15 G).ext X4.old.2) d12_19 rfl ?_
  intro _ X6
  refine on 25 X6 d12_22 rfl ((if0 _ _).trans (feq (hzc G)).1) <| oA 26 X6 d12_25 rfl rfl ?_
  have f7 := (C_su4 G).ext X6.old.2
  refine oF 29 X6 (w26 G) Via.refl f7 d12_26 rfl ?_
  intro _ X9
  refine oA 30 X9 d12_29 rfl rfl <| oF 33 X9 (w26 G) Via.refl F1 d12_30 rfl ?_
  intro _ X11
  refine oN 36 X11 d12_33 rfl (teq pc_0).2 <| oA 37 X11 d12_36 rfl rfl ?_
  have f12 := (F_su4 G).ext X11.old.2
  refine oF 40 X11 (w19 G) Via.refl f12 d12_37 rfl ?_
  intro _ X14
  refine oA 41 X14 d12_40 rfl rfl <| oF 44 X14 (w19 G) Via.refl F2 d12_41 rfl ?_
  intro _ X16
  refine mS 47 0 X16 (rm_eqB_g G F3) (u9 G) all0 d12_44 rfl rfl rfl lr (by decide) all0 ?_
  rintro _ _ _ _ X17 rfl _ _ _
  refine on 50 X17 d12_47 rfl ((if0 _ _).trans (feq pc_k0).1) <| oc 51 (v := 1) X17 d12_50 rfl (by decide) <| og 55 X17 d12_51 (by decide) ?_
  exact o_nret (y := (1 : Int32)) (t := .boolean) X17 d12_55 rfl (by decide) (by simp) (by decide) (by decide) (fun _ CC => rfl)
theorem rm_au67  : M23 G 0 0 0 0 #[.ref ku4] h0 n0 [] [] (Q15 Z ku4 h0) := by
  refine mi B23 ef3 (hEW G) fun s X0 hsf0 n0le => ?_
  refine oA 1 X0 d23_0 rfl rfl <| ifnonnullYesJ 12 X0 d23_1 (by decide) <| oA 13 X0 d23_12 rfl rfl ?_
  exact oR X0 d23_13 rfl rfl rfl (by decide) (by decide) (fun _ CC => rfl)
theorem rm_au68 (F0 : ex4 Z h0 pa1) (F1 : fd2 Z h0 pa1 .null) (ne : n0 ≤ pa1) : M24 G 1 0 0 12 #[.ref pa1, .ref ku4] h0 n0 [pa1] [] (Q24 Z pa1 ku4 h0) := by
  refine mi B24 ef11 (hEW G) fun s X0 hsf0 n0le => ?_
  have := F0.l
  refine oA 1 X0 d24_0 rfl rfl <| o_initO 4 (W := 0) X0 (w140 G) (w61 G) (w62 G) rfl (by decide) (Nat.le_of_eq rfl) (by decide) d24_1 rfl ?_
  intro _ X2
  refine oA 5 X2 d24_4 rfl rfl <| oA 6 X2 d24_5 rfl rfl <| oP 9 (v' := (.ref ku4)) X2 (w124 G) Via.refl F1 F0 (Or.inr ⟨(w125 G), rfl, rfl⟩) (w131 G) fd_2 rfl rfl d24_6 rfl (by omega) (Or.inl (by simp)) (sx X2 F0 nc1) ?_
  intro _ _ X3 W3 _
  have := W3.size
  have f4 := F1.same W3
  have f5 := F0.wr W3
  exact oz X3 d24_9 rfl (by decide) (by decide) (fun _ CC => ⟨rfl, f5, f4⟩)
theorem rm_au69  : M22 G 2 1 1 26 #[.ref ku4] h0 n0 [] [] (Q25 Z ku4 h0) := by
  refine mi B22 ef3 (hEW G) fun s X0 hsf0 n0le => ?_
  refine o_new 3 X0 (w130 G) (w131 G) (w116 G) d22_0 rfl (by decide) (by decide) ?_
  intro _ h1 b1 X1 _ _ _ A1 D1 _ _ _
  have f2 : fd2 Z h1 b1 .null := D1 (Or.inr (w125 G)) fd_2
  refine oD 4 X1 d22_3 rfl rfl <| oA 5 X1 d22_4 rfl rfl <| mS 8 2 X1 (rm_au67 G ) (u22 G) all0 d22_5 rfl rfl rfl lr (by decide) all0 ?_
  rintro _ _ _ _ X3 rfl K3 _ _
  have f4 := A1.keep K3
  have f5 := f2.k0 K3
  refine mP 11 1 X3 (rm_au68 G f4 f5 (by omega)) (u23 G) all0 d22_8 rfl rfl rfl lr (by decide) (aR (by omega) all0) ?_
  rintro _ _ _ _ X6 ⟨rfl, q7, q8⟩ _ _ _
  exact oR X6 d22_11 rfl rfl rfl (by decide) (by decide) (fun _ CC => ⟨b1, rfl, q7, q8, by omega⟩)
theorem rm_au70 (F0 : ex0 Z h0 pa1) (F1 : fd0 Z h0 pa1 (.int 0)) (F2 : fd1 Z h0 pa1 (.ref pa2)) (F3 : av0 Z h0 pa2 pk1 5 [.int pi1, .int pi2, .int pi3, .int pi4, .int pi5]) (pc_k0 : ¬ (oEq [pi1, pi2, pi3, pi4, pi5] [103, 114, 111, 117, 112]) = (0 : Int32)) (ne : NE su1 pa1 ∧ NE su2 pa1 ∧ NE su3 pa1 ∧ NE su4 pa1) : M13 G 3 2 5 38 #[.ref pa1] h0 n0 [] [] (Q25 Z ku4 h0) := by
  refine mi B13 ef7 (hEW G) fun s X0 hsf0 n0le => ?_
  have := F0.l
  have := F3.l
  have gl_su1 := ltg_su1 G X0.old
  have gl_su2 := ltg_su2 G X0.old
  have gl_su3 := ltg_su3 G X0.old
  have gl_su4 := ltg_su4 G X0.old
  refine mS 3 0 X0 (rm_au15 G ) (u12 G) all0 d13_0 rfl rfl rfl lr (by decide) all0 ?_
  rintro _ _ _ _ X1 ⟨xa1_2, rfl, q3, _, _⟩ K1 _ _
  refine oV 4 (l' := #[rr pa1, rr xa1_2, uu, uu, uu]) X1 d13_3 rfl rfl rfl <| oA 5 X1 d13_4 rfl rfl <| oL 6 X1 q3 d13_5 rfl <| oT 7 (l' := #[rr pa1, rr xa1_2, ii 4, uu, uu]) X1 d13_6 rfl rfl <| oc 8 (v := 0) X1 d13_7 rfl (by decide) <| oT 9 (l' := #[rr pa1, rr xa1_2, ii 4, ii 0, uu]) X1 d13_8 rfl rfl <| oI 10 X1 d13_9 rfl rfl <| oI 11 X1 d13_10 rfl rfl <| oN 14 X1 d13_11 rfl (tlt (by decide)).2.1 <| oA 15 X1 d13_14 rfl rfl <| oI 16 X1 d13_15 rfl rfl <| o_aaload 17 (v := (.ref ku1)) X1 q3 rfl ⟨by decide, by decide⟩ rfl d13_16 rfl ?_
  refine oU 19 (l' := #[rr pa1, rr xa1_2, ii 4, ii 0, rr ku1]) X1 d13_17 rfl rfl rfl <| oa 21 X1 d13_19 rfl rfl ?_
  have f6 := (F_ku1 G).ext X1.old.2
  refine oF 24 X1 (w111 G) Via.refl f6 d13_21 rfl ?_
  intro _ X8
  refine oA 25 X8 d13_24 rfl rfl ?_
  have f9 := (C_su1 G).ext X8.old.2
  have f10 := (F_su1 G).ext X8.old.2
  have f11 := F0.keep K1
  have f12 := F1.k0 K1
  have f13 := F2.k0 K1
  have f14 := (sg0 G).ext X8.old.2
  have f15 := F3.k0 K1
  have f16 := (sg10 G).ext X8.old.2
  refine mV 28 0 X8 f16 (rm_au13 G f9 f10 f11 f12 f13 f14 f15 (by decide) (by decide) (by omega)) (u13 G) all0 d13_25 rfl rfl rfl lr (by decide) all0 ?_
  rintro _ _ _ _ X17 rfl K17 _ _
  refine oy 37 X17 d13_28 (by decide) ((if0 _ _).trans (teq (by decide)).1) <| oJ 40 1 #[rr pa1, rr xa1_2, ii 4, ii 1, rr ku1] X17 d13_37 rfl rfl (by decide) rfl <| og 9 X17 d13_40 (by decide) <| oI 10 X17 d13_9 rfl rfl <| oI 11 X17 d13_10 rfl rfl <| oN 14 X17 d13_11 rfl (tlt (by decide)).2.1 <| oA 15 X17 d13_14 rfl rfl <| oI 16 X17 d13_15 rfl rfl ?_
  have f18 := q3.k0 K17
  refine o_aaload 17 (v := (.ref ku2)) X17 f18 rfl ⟨by decide, by decide⟩ rfl d13_16 rfl <| oU 19 (l' := #[rr pa1, rr xa1_2, ii 4, ii 1, rr ku2]) X17 d13_17 rfl rfl rfl <| oa 21 X17 d13_19 rfl rfl ?_
  have f19 := (F_ku2 G).ext X17.old.2
  refine oF 24 X17 (w111 G) Via.refl f19 d13_21 rfl ?_
  intro _ X21
  refine oA 25 X21 d13_24 rfl rfl ?_
  have f22 := (C_su2 G).ext X21.old.2
  have f23 := (F_su2 G).ext X21.old.2
  have f24 := f11.keep K17
  have f25 := f12.k0 K17
  have f26 := f13.k0 K17
  have f27 := (sg1 G).ext X21.old.2
  have f28 := f15.k0 K17
  have f29 := (sg11 G).ext X21.old.2
  refine mV 28 0 X21 f29 (rm_au13 G f22 f23 f24 f25 f26 f27 f28 (by decide) (by decide) (by omega)) (u13 G) all0 d13_25 rfl rfl rfl lr (by decide) all0 ?_
  rintro _ _ _ _ X30 rfl K30 _ _
  refine oy 37 X30 d13_28 (by decide) ((if0 _ _).trans (teq (by decide)).1) <| oJ 40 2 #[rr pa1, rr xa1_2, ii 4, ii 2, rr ku2] X30 d13_37 rfl rfl (by decide) rfl <| og 9 X30 d13_40 (by decide) <| oI 10 X30 d13_9 rfl rfl <| oI 11 X30 d13_10 rfl rfl <| oN 14 X30 d13_11 rfl (tlt (by decide)).2.1 <| oA 15 X30 d13_14 rfl rfl <| oI 16 X30 d13_15 rfl rfl ?_
  have f31 := f18.k0 K30
  refine o_aaload 17 (v := (.ref ku3)) X30 f31 rfl ⟨by decide, by decide⟩ rfl d13_16 rfl <| oU 19 (l' := #[rr pa1, rr xa1_2, ii 4, ii 2, rr ku3]) X30 d13_17 rfl rfl rfl <| oa 21 X30 d13_19 rfl rfl ?_
  have f32 := (F_ku3 G).ext X30.old.2
  refine oF 24 X30 (w111 G) Via.refl f32 d13_21 rfl ?_
  intro _ X34
  refine oA 25 X34 d13_24 rfl rfl ?_
  have f35 := (C_su3 G).ext X34.old.2
  have f36 := (F_su3 G).ext X34.old.2
  have f37 := f24.keep K30
  have f38 := f25.k0 K30
  have f39 := f26.k0 K30
  have f40 := (sg2 G).ext X34.old.2
  have f41 := f28.k0 K30
  have f42 := (sg12 G).ext X34.old.2
  refine mV 28 0 X34 f42 (rm_au13 G f35 f36 f37 f38 f39 f40 f41 (by decide) (by decide) (by omega)) (u13 G) all0 d13_25 rfl rfl rfl lr (by decide) all0 ?_
  rintro _ _ _ _ X43 rfl K43 _ _
  refine oy 37 X43 d13_28 (by decide) ((if0 _ _).trans (teq (by decide)).1) <| oJ 40 3 #[rr pa1, rr xa1_2, ii 4, ii 3, rr ku3] X43 d13_37 rfl rfl (by decide) rfl <| og 9 X43 d13_40 (by decide) <| oI 10 X43 d13_9 rfl rfl <| oI 11 X43 d13_10 rfl rfl <| oN 14 X43 d13_11 rfl (tlt (by decide)).2.1 <| oA 15 X43 d13_14 rfl rfl <| oI 16 X43 d13_15 rfl rfl ?_
  have f44 := f31.k0 K43
  refine o_aaload 17 (v := (.ref ku4)) X43 f44 rfl ⟨by decide, by decide⟩ rfl d13_16 rfl <| oU 19 (l' := #[rr pa1, rr xa1_2, ii 4, ii 3, rr ku4]) X43 d13_17 rfl rfl rfl <| oa 21 X43 d13_19 rfl rfl ?_
  have f45 := (F_ku4 G).ext X43.old.2
  refine oF 24 X43 (w111 G) Via.refl f45 d13_21 rfl ?_
  intro _ X47
  refine oA 25 X47 d13_24 rfl rfl ?_
  have f48 := f37.keep K43
  have f49 := f38.k0 K43
  have f50 := f39.k0 K43
  have f51 := f41.k0 K43
  have f52 := (sg13 G).ext X47.old.2
  refine mV 28 0 X47 f52 (rm_au66 G f48 f49 f50 f51 pc_k0 (by decide) (by omega)) (u13 G) all0 d13_25 rfl rfl rfl lr (by decide) all0 ?_
  rintro _ _ _ _ X53 rfl _ _ _
  refine on 31 X53 d13_28 rfl ((if0 _ _).trans (feq (by decide)).1) <| oa 33 X53 d13_31 rfl rfl <| mS 36 0 X53 (rm_au69 G ) (u24 G) all0 d13_33 rfl rfl rfl lr (by decide) all0 ?_
  rintro _ _ _ _ X54 ⟨xa1_55, rfl, q56, q57, _⟩ _ _ _
  exact oR X54 d13_36 rfl rfl rfl (by decide) (by decide) (fun _ CC => ⟨xa1_55, rfl, q56, q57, by omega⟩)
theorem rm_au71 (F0 : fd2 Z h0 pa1 (.ref ku4)) : M16 G 0 0 0 0 #[.ref pa1, .null] h0 n0 [] [] (Q15 Z ku4 h0) := by
  refine mi B16 ef10 (hEW G) fun s X0 hsf0 n0le => ?_
  have := F0.l
  refine oA 1 X0 d16_0 rfl rfl <| oF 4 X0 (w124 G) Via.refl F0 d16_1 rfl ?_
  intro _ X2
  refine o_ifnullNo 7 X2 d16_4 rfl <| oA 8 X2 d16_7 rfl rfl <| oF 11 X2 (w124 G) Via.refl F0 d16_8 rfl ?_
  intro _ X4
  refine og 15 X4 d16_11 (by decide) ?_
  exact oR X4 d16_15 rfl rfl rfl (by decide) (by decide) (fun _ CC => rfl)
def Q30 (Z : State) (b1 : Addr) (b2 : ClassId) (b3 b4 b5 b6 b7 b8 : Int32) (h0 : Heap) (v : Option Value) (h : Heap) (vm : Vm) : Prop := v = some (.int 6) ∧ av0 Z h b1 b2 6 [.int (b3.toInt8.toInt32), .int (b4.toInt8.toInt32), .int (b5.toInt8.toInt32), .int (b6.toInt8.toInt32), .int (b7.toInt8.toInt32), .int (b8.toInt8.toInt32)] ∧ ex3 Z h b1
theorem rm_au72 (F0 : av1 Z h0 pa1 pk1 6 [.int pi1, .int pi2, .int pi3, .int pi4, .int pi5, .int pi6]) (F1 : av0 Z h0 pa2 pk2 6 [.int pi100, .int pi101, .int pi102, .int pi103, .int pi104, .int pi105]) (F2 : ex3 Z h0 pa2) (rg_pi1 : ¬ pi1 < 0 ∧ ¬ (255 : Int32) < pi1) (rg_pi2 : ¬ pi2 < 0 ∧ ¬ (255 : Int32) < pi2) (rg_pi3 : ¬ pi3 < 0 ∧ ¬ (255 : Int32) < pi3) (rg_pi4 : ¬ pi4 < 0 ∧ ¬ (255 : Int32) < pi4) (rg_pi5 : ¬ pi5 < 0 ∧ ¬ (255 : Int32) < pi5) (rg_pi6 : ¬ pi6 < 0 ∧ ¬ (255 : Int32) < pi6) (ne : NE pa1 pa2 ∧ n0 ≤ pa2) : M20 G 0 0 0 0 #[.ref pa1, i0, .ref pa2, i0, .int 6] h0 n0 [pa2] [pa2] (Q30 Z pa2 pk2 pi1 pi2 pi3 pi4 pi5 pi6 h0) := by
  refine mi B20 ef14 (hEW G) fun s X0 hsf0 n0le => ?_
  have := F0.l
  have := F1.l
  have sf_pa2 := hsf0 pa2 (by simp)
  refine oc 1 (v := 0) X0 d20_0 rfl (by decide) <| oS 3 (l' := #[rr pa1, ii 0, rr pa2, ii 0, ii 6, ii 0, uu]) X0 d20_1 rfl rfl <| oi 5 X0 d20_3 rfl rfl <| oi 7 X0 d20_5 rfl rfl <| oN 10 X0 d20_7 rfl (tlt (by decide)).2.1 <| oA 11 X0 d20_10 rfl rfl <| oI 12 X0 d20_11 rfl rfl <| oC 13 (v := (.int pi1)) X0 F0 ⟨by decide, by decide⟩ rfl d20_12 rfl <| oS 15 (l' := #[rr pa1, ii 0, rr pa2, ii 0, ii 6, ii 0, ii pi1]) X0 d20_13 rfl rfl <| oi 17 X0 d20_15 rfl rfl <| o_sipush 20 (v := 255) X0 d20_17 rfl (by decide) <| oY 26 X0 d20_20 (by decide) (flt rg_pi1.2).2.2.2 ?_
  refine oA 27 X0 d20_26 rfl rfl <| oI 28 X0 d20_27 rfl rfl <| oi 30 X0 d20_28 rfl rfl <| o_i2b 31 (v := (pi1.toInt8.toInt32)) X0 d20_30 rfl rfl <| sB 32 0 (pi1.toInt8.toInt32) X0 F1 (by decide) (lb rfl) (own_narB _) d20_31 rfl (by omega) (Or.inl (by simp)) sf_pa2 ?_
  rintro _ _ X1 ⟨_, _, W1⟩ C1 V1
  have := W1.size
  have V2 := V1.as [.int (pi1.toInt8.toInt32), .int pi101, .int pi102, .int pi103, .int pi104, .int pi105] rfl
  refine oJ 35 1 #[rr pa1, ii 1, rr pa2, ii 0, ii 6, ii 0, ii pi1] X1 d20_32 rfl rfl (by decide) rfl <| oJ 38 1 #[rr pa1, ii 1, rr pa2, ii 1, ii 6, ii 0, ii pi1] X1 d20_35 rfl rfl (by decide) rfl <| oJ 41 1 #[rr pa1, ii 1, rr pa2, ii 1, ii 6, ii 1, ii pi1] X1 d20_38 rfl rfl (by decide) rfl <| og 3 X1 d20_41 (by decide) <| oi 5 X1 d20_3 rfl rfl <| oi 7 X1 d20_5 rfl rfl <| oN 10 X1 d20_7 rfl (tlt (by decide)).2.1 <| oA 11 X1 d20_10 rfl rfl <| oI 12 X1 d20_11 rfl rfl ?_
  have f3 := F0.oth W1 (by omega)
  refine oC 13 (v := (.int pi2)) X1 f3 ⟨by decide, by decide⟩ rfl d20_12 rfl <| oS 15 (l' := #[rr pa1, ii 1, rr pa2, ii 1, ii 6, ii 1, ii pi2]) X1 d20_13 rfl rfl <| oi 17 X1 d20_15 rfl rfl <| o_sipush 20 (v := 255) X1 d20_17 rfl (by decide) <| oY 26 X1 d20_20 (by decide) (flt rg_pi2.2).2.2.2 <| oA 27 X1 d20_26 rfl rfl <| oI 28 X1 d20_27 rfl rfl <| oi 30 X1 d20_28 rfl rfl <| o_i2b 31 (v := (pi2.toInt8.toInt32)) X1 d20_30 rfl rfl ?_
  have f5 := C1.safe (own_lt (by omega)) sf_pa2
  refine sB 32 1 (pi2.toInt8.toInt32) X1 V2 (by decide) (lb rfl) (own_narB _) d20_31 rfl (by omega) (Or.inl (by simp)) f5 ?_
  rintro _ _ X4 ⟨_, _, W4⟩ C4 V4
  have := W4.size
  have V6 := V4.as [.int (pi1.toInt8.toInt32), .int (pi2.toInt8.toInt32), .int pi102, .int pi103, .int pi104, .int pi105] rfl
  refine oJ 35 2 #[rr pa1, ii 2, rr pa2, ii 1, ii 6, ii 1, ii pi2] X4 d20_32 rfl rfl (by decide) rfl <| oJ 38 2 #[rr pa1, ii 2, rr pa2, ii 2, ii 6, ii 1, ii pi2] X4 d20_35 rfl rfl (by decide) rfl <| oJ 41 2 #[rr pa1, ii 2, rr pa2, ii 2, ii 6, ii 2, ii pi2] X4 d20_38 rfl rfl (by decide) rfl <| og 3 X4 d20_41 (by decide) <| oi 5 X4 d20_3 rfl rfl <| oi 7 X4 d20_5 rfl rfl <| oN 10 X4 d20_7 rfl (tlt (by decide)).2.1 <| oA 11 X4 d20_10 rfl rfl <| oI 12 X4 d20_11 rfl rfl ?_
  have f7 := f3.oth W4 (by omega)
  refine oC 13 (v := (.int pi3)) X4 f7 ⟨by decide, by decide⟩ rfl d20_12 rfl <| oS 15 (l' := #[rr pa1, ii 2, rr pa2, ii 2, ii 6, ii 2, ii pi3]) X4 d20_13 rfl rfl <| oi 17 X4 d20_15 rfl rfl <| o_sipush 20 (v := 255) X4 d20_17 rfl (by decide) <| oY 26 X4 d20_20 (by decide) (flt rg_pi3.2).2.2.2 <| oA 27 X4 d20_26 rfl rfl <| oI 28 X4 d20_27 rfl rfl <| oi 30 X4 d20_28 rfl rfl <| o_i2b 31 (v := (pi3.toInt8.toInt32)) X4 d20_30 rfl rfl ?_
  have f9 := C4.safe (own_lt (by omega)) f5
  refine sB 32 2 (pi3.toInt8.toInt32) X4 V6 (by decide) (lb rfl) (own_narB _) d20_31 rfl (by omega) (Or.inl (by simp)) f9 ?_
  rintro _ _ X8 ⟨_, _, W8⟩ C8 V8
  have := W8.size
  have V10 := V8.as [.int (pi1.toInt8.toInt32), .int (pi2.toInt8.toInt32), .int (pi3.toInt8.toInt32), .int pi103, .int pi104, .int pi105] rfl
  refine oJ 35 3 #[rr pa1, ii 3, rr pa2, ii 2, ii 6, ii 2, ii pi3] X8 d20_32 rfl rfl (by decide) rfl <| oJ 38 3 #[rr pa1, ii 3, rr pa2, ii 3, ii 6, ii 2, ii pi3] X8 d20_35 rfl rfl (by decide) rfl <| oJ 41 3 #[rr pa1, ii 3, rr pa2, ii 3, ii 6, ii 3, ii pi3] X8 d20_38 rfl rfl (by decide) rfl <| og 3 X8 d20_41 (by decide) <| oi 5 X8 d20_3 rfl rfl <| oi 7 X8 d20_5 rfl rfl <| oN 10 X8 d20_7 rfl (tlt (by decide)).2.1 <| oA 11 X8 d20_10 rfl rfl <| oI 12 X8 d20_11 rfl rfl ?_
  have f11 := f7.oth W8 (by omega)
  refine oC 13 (v := (.int pi4)) X8 f11 ⟨by decide, by decide⟩ rfl d20_12 rfl <| oS 15 (l' := #[rr pa1, ii 3, rr pa2, ii 3, ii 6, ii 3, ii pi4]) X8 d20_13 rfl rfl <| oi 17 X8 d20_15 rfl rfl <| o_sipush 20 (v := 255) X8 d20_17 rfl (by decide) <| oY 26 X8 d20_20 (by decide) (flt rg_pi4.2).2.2.2 <| oA 27 X8 d20_26 rfl rfl <| oI 28 X8 d20_27 rfl rfl <| oi 30 X8 d20_28 rfl rfl <| o_i2b 31 (v := (pi4.toInt8.toInt32)) X8 d20_30 rfl rfl ?_
  have f13 := C8.safe (own_lt (by omega)) f9
  refine sB 32 3 (pi4.toInt8.toInt32) X8 V10 (by decide) (lb rfl) (own_narB _) d20_31 rfl (by omega) (Or.inl (by simp)) f13 ?_
  rintro _ _ X12 ⟨_, _, W12⟩ C12 V12
  have := W12.size
  have V14 := V12.as [.int (pi1.toInt8.toInt32), .int (pi2.toInt8.toInt32), .int (pi3.toInt8.toInt32), .int (pi4.toInt8.toInt32), .int pi104, .int pi105] rfl
  refine oJ 35 4 #[rr pa1, ii 4, rr pa2, ii 3, ii 6, ii 3, ii pi4] X12 d20_32 rfl rfl (by decide) rfl <| oJ 38 4 #[rr pa1, ii 4, rr pa2, ii 4, ii 6, ii 3, ii pi4] X12 d20_35 rfl rfl (by decide) rfl <| oJ 41 4 #[rr pa1, ii 4, rr pa2, ii 4, ii 6, ii 4, ii pi4] X12 d20_38 rfl rfl (by decide) rfl <| og 3 X12 d20_41 (by decide) <| oi 5 X12 d20_3 rfl rfl <| oi 7 X12 d20_5 rfl rfl <| oN 10 X12 d20_7 rfl (tlt (by decide)).2.1 <| oA 11 X12 d20_10 rfl rfl <| oI 12 X12 d20_11 rfl rfl ?_
  have f15 := f11.oth W12 (by omega)
  refine oC 13 (v := (.int pi5)) X12 f15 ⟨by decide, by decide⟩ rfl d20_12 rfl <| oS 15 (l' := #[rr pa1, ii 4, rr pa2, ii 4, ii 6, ii 4, ii pi5]) X12 d20_13 rfl rfl <| oi 17 X12 d20_15 rfl rfl <| o_sipush 20 (v := 255) X12 d20_17 rfl (by decide) <| oY 26 X12 d20_20 (by decide) (flt rg_pi5.2).2.2.2 <| oA 27 X12 d20_26 rfl rfl <| oI 28 X12 d20_27 rfl rfl <| oi 30 X12 d20_28 rfl rfl <| o_i2b 31 (v := (pi5.toInt8.toInt32)) X12 d20_30 rfl rfl ?_
  have f17 := C12.safe (own_lt (by omega)) f13
  refine sB 32 4 (pi5.toInt8.toInt32) X12 V14 (by decide) (lb rfl) (own_narB _) d20_31 rfl (by omega) (Or.inl (by simp)) f17 ?_
  rintro _ _ X16 ⟨_, _, W16⟩ C16 V16
  have := W16.size
  have V18 := V16.as [.int (pi1.toInt8.toInt32), .int (pi2.toInt8.toInt32), .int (pi3.toInt8.toInt32), .int (pi4.toInt8.toInt32), .int (pi5.toInt8.toInt32), .int pi105] rfl
  refine oJ 35 5 #[rr pa1, ii 5, rr pa2, ii 4, ii 6, ii 4, ii pi5] X16 d20_32 rfl rfl (by decide) rfl <| oJ 38 5 #[rr pa1, ii 5, rr pa2, ii 5, ii 6, ii 4, ii pi5] X16 d20_35 rfl rfl (by decide) rfl <| oJ 41 5 #[rr pa1, ii 5, rr pa2, ii 5, ii 6, ii 5, ii pi5] X16 d20_38 rfl rfl (by decide) rfl <| og 3 X16 d20_41 (by decide) <| oi 5 X16 d20_3 rfl rfl <| oi 7 X16 d20_5 rfl rfl <| oN 10 X16 d20_7 rfl (tlt (by decide)).2.1 <| oA 11 X16 d20_10 rfl rfl <| oI 12 X16 d20_11 rfl rfl ?_
  have f19 := f15.oth W16 (by omega)
  refine oC 13 (v := (.int pi6)) X16 f19 ⟨by decide, by decide⟩ rfl d20_12 rfl <| oS 15 (l' := #[rr pa1, ii 5, rr pa2, ii 5, ii 6, ii 5, ii pi6]) X16 d20_13 rfl rfl <| oi 17 X16 d20_15 rfl rfl <| o_sipush 20 (v := 255) X16 d20_17 rfl (by decide) <| oY 26 X16 d20_20 (by decide) (flt rg_pi6.2).2.2.2 <| oA 27 X16 d20_26 rfl rfl <| oI 28 X16 d20_27 rfl rfl <| oi 30 X16 d20_28 rfl rfl <| o_i2b 31 (v := (pi6.toInt8.toInt32)) X16 d20_30 rfl rfl ?_
  have f21 := C16.safe (own_lt (by omega)) f17
  refine sB 32 5 (pi6.toInt8.toInt32) X16 V18 (by decide) (lb rfl) (own_narB _) d20_31 rfl (by omega) (Or.inl (by simp)) f21 ?_
  rintro _ _ X20 ⟨_, _, W20⟩ _ V20
  have := W20.size
  have V22 := V20.as [.int (pi1.toInt8.toInt32), .int (pi2.toInt8.toInt32), .int (pi3.toInt8.toInt32), .int (pi4.toInt8.toInt32), .int (pi5.toInt8.toInt32), .int (pi6.toInt8.toInt32)] rfl
  refine oJ 35 6 #[rr pa1, ii 6, rr pa2, ii 5, ii 6, ii 5, ii pi6] X20 d20_32 rfl rfl (by decide) rfl <| oJ 38 6 #[rr pa1, ii 6, rr pa2, ii 6, ii 6, ii 5, ii pi6] X20 d20_35 rfl rfl (by decide) rfl <| oJ 41 6 #[rr pa1, ii 6, rr pa2, ii 6, ii 6, ii 6, ii pi6] X20 d20_38 rfl rfl (by decide) rfl <| og 3 X20 d20_41 (by decide) <| oi 5 X20 d20_3 rfl rfl <| oi 7 X20 d20_5 rfl rfl <| oY 44 X20 d20_7 (by decide) (flt (by decide)).2.1 <| oi 46 X20 d20_44 rfl rfl ?_
  have f23 := (((((F2.wr W1).wr W4).wr W8).wr W12).wr W16).wr W20
  exact o_iret X20 d20_46 rfl (by decide) (by decide) (fun _ CC => ⟨rfl, V22, f23⟩)
def Q31 (Z : State) (b1 b2 b3 b4 b5 b6 : Int32) (h0 : Heap) (v : Option Value) (h : Heap) (vm : Vm) : Prop := ∃ (xa1 : Addr) (xk1 : ClassId), v = some (.ref xa1) ∧ av0 Z h xa1 xk1 6 [.int (b1.toInt8.toInt32), .int (b2.toInt8.toInt32), .int (b3.toInt8.toInt32), .int (b4.toInt8.toInt32), .int (b5.toInt8.toInt32), .int (b6.toInt8.toInt32)] ∧ ex3 Z h xa1 ∧ Safe Z EL0 vm h xa1 ∧ h0.size ≤ xa1 ∧ h.size > xa1
theorem rm_au73 (F0 : av1 Z h0 pa1 pk1 6 [.int pi1, .int pi2, .int pi3, .int pi4, .int pi5, .int pi6]) (rg_pi1 : ¬ pi1 < 0 ∧ ¬ (255 : Int32) < pi1) (rg_pi2 : ¬ pi2 < 0 ∧ ¬ (255 : Int32) < pi2) (rg_pi3 : ¬ pi3 < 0 ∧ ¬ (255 : Int32) < pi3) (rg_pi4 : ¬ pi4 < 0 ∧ ¬ (255 : Int32) < pi4) (rg_pi5 : ¬ pi5 < 0 ∧ ¬ (255 : Int32) < pi5) (rg_pi6 : ¬ pi6 < 0 ∧ ¬ (255 : Int32) < pi6) : M19 G 1 1 6 18 #[.ref pa1, i0, .int 6] h0 n0 [] [] (Q31 Z pi1 pi2 pi3 pi4 pi5 pi6 h0) := by
  refine mi B19 ef13 (hEW G) fun s X0 hsf0 n0le => ?_
  have l1 := F0.l
  refine oI 1 X0 d19_0 rfl rfl <| nP (aty := .byte) 3 6 X0 (w3 G) d19_1 rfl (by decide) had_byte ?_
  intro _ h1 b1 k1 X1 _ l1 E1 V1 A1 _ S1
  have V2 : av0 Z h1 b1 k1 6 [i0, i0, i0, i0, i0, i0] := V1.pad (pad_rep [] (.int (0 : Int32)) 6)
  refine oV 4 (l' := #[rr pa1, ii 0, ii 6, rr b1, uu, uu]) X1 d19_3 rfl rfl rfl <| oA 5 X1 d19_4 rfl rfl <| oI 6 X1 d19_5 rfl rfl <| oA 7 X1 d19_6 rfl rfl <| oc 8 (v := 0) X1 d19_7 rfl (by decide) <| oI 9 X1 d19_8 rfl rfl ?_
  have f3 := F0.ext E1
  refine mS 12 0 X1 (rm_au72 G f3 V2 A1 rg_pi1 rg_pi2 rg_pi3 rg_pi4 rg_pi5 rg_pi6 (by omega)) (u17 G) (sS (by omega) S1 all0) d19_9 rfl rfl rfl lr (by decide) (aR (by omega) all0) ?_
  rintro _ _ _ _ X4 ⟨rfl, q5, q6⟩ _ _ C4
  refine oS 14 (l' := #[rr pa1, ii 0, ii 6, rr b1, ii 6, uu]) X4 d19_12 rfl rfl <| oi 16 X4 d19_14 rfl rfl <| oI 17 X4 d19_16 rfl rfl <| oY 57 X4 d19_17 (by decide) (teq (by decide)).1 <| oA 58 X4 d19_57 rfl rfl ?_
  have f7 := C4.safe (own_lt (by omega)) S1
  exact oR X4 d19_58 rfl rfl rfl (by decide) (by decide) (fun _ CC => ⟨b1, k1, rfl, q5, q6, (CC.safe (own_lt (by omega)) f7), by omega⟩)
theorem rm_au74 (F0 : av0 Z h0 pa1 pk1 6 ps_pa1) : M21 G 0 0 0 0 #[.ref pa1, .int 6] h0 n0 [] [] (Q4 Z  h0) := by
  refine mi B21 ef0 (hEW G) fun s X0 hsf0 n0le => ?_
  have := F0.l
  refine oI 1 X0 d21_0 rfl rfl <| oA 2 X0 d21_1 rfl rfl <| oL 3 X0 F0 d21_2 rfl <| o_isub 4 (v := 0) X0 d21_3 rfl (by decide) <| ob 6 (v := 31) X0 d21_4 rfl (by decide) <| o_iushr 7 (v := 0) X0 d21_6 rfl (by decide) <| o_i2b 8 (v := 0) X0 d21_7 rfl (by decide) ?_
  exact o_nret (y := (0 : Int32)) (t := .byte) X0 d21_8 rfl (by decide) (by simp) (by decide) (by decide) (fun _ CC => rfl)
def Q32 (Z : State) (b1 : Addr) (b2 b3 b4 b5 b6 b7 : Int32) (h0 : Heap) (v : Option Value) (h : Heap) (vm : Vm) : Prop := ∃ (xa1 : Addr) (xk1 : ClassId), v = none ∧ ex0 Z h b1 ∧ fd0 Z h b1 (.int 0) ∧ fd1 Z h b1 (.ref xa1) ∧ av0 Z h xa1 xk1 6 [.int (b2.toInt8.toInt32), .int (b3.toInt8.toInt32), .int (b4.toInt8.toInt32), .int (b5.toInt8.toInt32), .int (b6.toInt8.toInt32), .int (b7.toInt8.toInt32)] ∧ ex3 Z h xa1 ∧ Safe Z EL0 vm h xa1 ∧ h0.size ≤ xa1 ∧ h.size > xa1
theorem rm_au75 (F0 : ex0 Z h0 pa1) (F1 : fd0 Z h0 pa1 (.int pi1)) (F2 : fd1 Z h0 pa1 .null) (F3 : av1 Z h0 pa2 pk1 6 [.int pi2, .int pi3, .int pi4, .int pi5, .int pi6, .int pi7]) (rg_pi2 : ¬ pi2 < 0 ∧ ¬ (255 : Int32) < pi2) (rg_pi3 : ¬ pi3 < 0 ∧ ¬ (255 : Int32) < pi3) (rg_pi4 : ¬ pi4 < 0 ∧ ¬ (255 : Int32) < pi4) (rg_pi5 : ¬ pi5 < 0 ∧ ¬ (255 : Int32) < pi5) (rg_pi6 : ¬ pi6 < 0 ∧ ¬ (255 : Int32) < pi6) (rg_pi7 : ¬ pi7 < 0 ∧ ¬ (255 : Int32) < pi7) (ne : NE pa1 pa2 ∧ n0 ≤ pa1) : M18 G 2 1 6 35 #[.ref pa1, .ref pa2, i0, .int 6, .null] h0 n0 [pa1] [pa1] (Q32 Z pa1 pi2 pi3 pi4 pi5 pi6 pi7 h0) := by
  refine mi B18 ef12 (hEW G) fun s X0 hsf0 n0le => ?_
  have := F0.l
  have := F3.l
  have sf_pa1 := hsf0 pa1 (by simp)
  refine oA 1 X0 d18_0 rfl rfl <| o_initO 4 (W := 0) X0 (w60 G) (w61 G) (w62 G) rfl (by decide) (Nat.le_of_eq rfl) (by decide) d18_1 rfl ?_
  intro _ X2
  refine oI 5 X2 d18_4 rfl rfl <| oy 27 X2 d18_5 (by decide) ((if0 _ _).trans (feq (by decide)).2) <| oG 30 X2 (w25 G) Via.refl ((sg15 G).ext X2.old.2) d18_27 rfl ?_
  intro _ X4
  refine on 33 X4 d18_30 rfl ((if0 _ _).trans (feq (hzc G)).1) <| oA 34 X4 d18_33 rfl rfl <| oI 35 X4 d18_34 rfl rfl <| oI 36 X4 d18_35 rfl rfl <| mS 39 0 X4 (rm_au73 G F3 rg_pi2 rg_pi3 rg_pi4 rg_pi5 rg_pi6 rg_pi7) (u18 G) all0 d18_36 rfl rfl rfl lr (by decide) all0 ?_
  rintro _ _ _ _ X5 ⟨xa1_6, xk1_7, rfl, q8, q9, q10, _⟩ K5 _ C5
  refine oU 41 (l' := #[rr pa1, rr pa2, ii 0, ii 6, .val .null, rr xa1_6]) X5 d18_39 rfl rfl rfl <| oA 42 X5 d18_41 rfl rfl <| oa 44 X5 d18_42 rfl rfl <| oI 45 X5 d18_44 rfl rfl <| mS 48 1 X5 (rm_au74 G q8) (u19 G) all0 d18_45 rfl rfl rfl lr (by decide) all0 ?_
  rintro _ _ _ _ X12 rfl K12 _ C12
  have f13 := (F1.k0 K5).k0 K12
  have f14 := (F0.keep K5).keep K12
  have f16 := C12.safe (own_lt (by omega)) (C5.safe (own_lt (by omega)) sf_pa1)
  refine oP 51 (v' := (.int 0)) X12 (w26 G) Via.refl f13 f14 (Or.inr ⟨(w5 G), rfl, rfl⟩) (w2 G) fd_1 rfl rfl d18_48 rfl (by omega) (Or.inl (by simp)) f16 ?_
  intro _ _ X15 W15 C15
  have := W15.size
  have f17 := f13.same W15
  refine oA 52 X15 d18_51 rfl rfl <| oa 54 X15 d18_52 rfl rfl ?_
  have f18 := ((F2.k0 K5).k0 K12).other W15 (Or.inr (sn0 G))
  have f19 := f14.wr W15
  have f21 := C15.safe (own_lt (by omega)) f16
  refine oP 57 (v' := (.ref xa1_6)) X15 (w19 G) Via.refl f18 f19 (Or.inr ⟨(w4 G), rfl, rfl⟩) (w2 G) fd_0 rfl rfl d18_54 rfl (by omega) (Or.inl (by simp)) f21 ?_
  intro _ _ X20 W20 C20
  have := W20.size
  have f22 := f18.same W20
  have f23 := f19.wr W20
  have f24 := f17.other W20 (Or.inr (sn1 G))
  have f25 := ((q8.k0 K12).oth W15 (by omega)).oth W20 (by omega)
  have f26 := ((q9.keep K12).wr W15).wr W20
  have f27 := C20.safe (own_lt (by omega)) (C15.safe (own_lt (by omega)) (C12.safe (own_lt (by omega)) q10))
  exact oz X20 d18_57 rfl (by decide) (by decide) (fun _ CC => ⟨xa1_6, xk1_7, rfl, f23, f24, f22, f25, f26, (CC.safe (own_lt (by omega)) f27), by omega⟩)
theorem rm_au76 (F0 : ex0 Z h0 pa1) (F1 : fd0 Z h0 pa1 (.int pi100)) (F2 : fd1 Z h0 pa1 .null) (F3 : av1 Z h0 pa2 pk1 6 [.int pi1, .int pi2, .int pi3, .int pi4, .int pi5, .int pi6]) (rg_pi1 : ¬ pi1 < 0 ∧ ¬ (255 : Int32) < pi1) (rg_pi2 : ¬ pi2 < 0 ∧ ¬ (255 : Int32) < pi2) (rg_pi3 : ¬ pi3 < 0 ∧ ¬ (255 : Int32) < pi3) (rg_pi4 : ¬ pi4 < 0 ∧ ¬ (255 : Int32) < pi4) (rg_pi5 : ¬ pi5 < 0 ∧ ¬ (255 : Int32) < pi5) (rg_pi6 : ¬ pi6 < 0 ∧ ¬ (255 : Int32) < pi6) (ne : NE pa1 pa2 ∧ n0 ≤ pa1) : M17 G 3 1 6 52 #[.ref pa1, .ref pa2] h0 n0 [pa1] [pa1] (Q32 Z pa1 pi1 pi2 pi3 pi4 pi5 pi6 h0) := by
  refine mi B17 ef11 (hEW G) fun s X0 hsf0 n0le => ?_
  have := F0.l
  have := F3.l
  have sf_pa1 := hsf0 pa1 (by simp)
  refine oA 1 X0 d17_0 rfl rfl <| oA 2 X0 d17_1 rfl rfl <| oc 3 (v := 0) X0 d17_2 rfl (by decide) <| oA 4 X0 d17_3 rfl rfl <| oL 5 X0 F3 d17_4 rfl <| o_aconstNull 6 X0 d17_5 rfl <| mP 9 0 X0 (rm_au75 G F0 F1 F2 F3 rg_pi1 rg_pi2 rg_pi3 rg_pi4 rg_pi5 rg_pi6 (by omega)) (u20 G) (sS (by omega) sf_pa1 all0) d17_6 rfl rfl rfl lr (by decide) (aI (by omega) (by simp) all0) ?_
  rintro _ _ _ _ X1 ⟨xa1_2, xk1_3, rfl, q4, q5, q6, q7, q8, q9, _⟩ _ _ _
  exact oz X1 d17_9 rfl (by decide) (by decide) (fun _ CC => ⟨xa1_2, xk1_3, rfl, q4, q5, q6, q7, q8, (CC.safe (own_lt (by omega)) q9), by omega⟩)
def Q33 (Z : State) (b1 b2 b3 b4 b5 b6 : Int32) (h0 : Heap) (v : Option Value) (h : Heap) (vm : Vm) : Prop := ∃ (xa1 : Addr) (xa2 : Addr) (xk1 : ClassId), v = some (.ref xa1) ∧ ex0 Z h xa1 ∧ fd0 Z h xa1 (.int 0) ∧ fd1 Z h xa1 (.ref xa2) ∧ Safe Z EL0 vm h xa1 ∧ av0 Z h xa2 xk1 6 [.int (b1.toInt8.toInt32), .int (b2.toInt8.toInt32), .int (b3.toInt8.toInt32), .int (b4.toInt8.toInt32), .int (b5.toInt8.toInt32), .int (b6.toInt8.toInt32)] ∧ ex3 Z h xa2 ∧ Safe Z EL0 vm h xa2 ∧ h0.size ≤ xa1 ∧ h.size > xa1 ∧ h0.size ≤ xa2 ∧ h.size > xa2 ∧ NE xa1 xa2
theorem rm_au77 (F0 : av1 Z h0 pa1 pk1 22 [.int pi1, .int pi2, .int pi3, .int pi4, .int pi5, .int pi6, .int pi7, .int pi8, .int pi9, .int pi10, .int pi11, .int pi12, .int pi13, .int pi14, .int pi15, .int pi16, .int pi17, .int pi18, .int pi19, .int pi20, .int pi21, .int pi22]) (rg_pi1 : ¬ pi1 < 0 ∧ ¬ (255 : Int32) < pi1) (rg_pi2 : ¬ pi2 < 0 ∧ ¬ (255 : Int32) < pi2) (rg_pi3 : ¬ pi3 < 0 ∧ ¬ (255 : Int32) < pi3) (rg_pi4 : ¬ pi4 < 0 ∧ ¬ (255 : Int32) < pi4) (rg_pi5 : ¬ pi5 < 0 ∧ ¬ (255 : Int32) < pi5) (rg_pi6 : ¬ pi6 < 0 ∧ ¬ (255 : Int32) < pi6) (rg_pi7 : ¬ pi7 < 0 ∧ ¬ (255 : Int32) < pi7) (rg_pi8 : ¬ pi8 < 0 ∧ ¬ (255 : Int32) < pi8) (rg_pi9 : ¬ pi9 < 0 ∧ ¬ (255 : Int32) < pi9) (rg_pi10 : ¬ pi10 < 0 ∧ ¬ (255 : Int32) < pi10) (rg_pi11 : ¬ pi11 < 0 ∧ ¬ (255 : Int32) < pi11) (rg_pi12 : ¬ pi12 < 0 ∧ ¬ (255 : Int32) < pi12) (rg_pi13 : ¬ pi13 < 0 ∧ ¬ (255 : Int32) < pi13) (rg_pi14 : ¬ pi14 < 0 ∧ ¬ (255 : Int32) < pi14) (rg_pi15 : ¬ pi15 < 0 ∧ ¬ (255 : Int32) < pi15) (rg_pi16 : ¬ pi16 < 0 ∧ ¬ (255 : Int32) < pi16) (rg_pi17 : ¬ pi17 < 0 ∧ ¬ (255 : Int32) < pi17) (rg_pi18 : ¬ pi18 < 0 ∧ ¬ (255 : Int32) < pi18) (rg_pi19 : ¬ pi19 < 0 ∧ ¬ (255 : Int32) < pi19) (rg_pi20 : ¬ pi20 < 0 ∧ ¬ (255 : Int32) < pi20) (rg_pi21 : ¬ pi21 < 0 ∧ ¬ (255 : Int32) < pi21) (rg_pi22 : ¬ pi22 < 0 ∧ ¬ (255 : Int32) < pi22) (pc_0 : ¬ pi100 = (0 : Int32)) (pc_1 : ¬ pi100 = (1 : Int32)) (pc_2 : ¬ pi100 = (2 : Int32)) (pc_3 : ¬ pi100 = (3 : Int32)) (pc_4 : pi100 = (4 : Int32)) : M10 G 4 3 16 66 #[.ref pa1, .int pi100] h0 n0 [] [] (Q33 Z pi1 pi2 pi3 pi4 pi5 pi6 h0) := by
  refine mi B10 ef0 (hEW G) fun s X0 hsf0 n0le => ?_
  have l1 := F0.l
  refine oI 1 X0 d10_0 rfl rfl <| oy 7 X0 d10_1 (by decide) ((if0 _ _).trans (feq pc_0).2) <| oI 8 X0 d10_7 rfl rfl <| oc 9 (v := 1) X0 d10_8 rfl (by decide) <| oY 41 X0 d10_9 (by decide) (feq pc_1).2 <| oI 42 X0 d10_41 rfl rfl <| oc 43 (v := 2) X0 d10_42 rfl (by decide) <| oY 81 X0 d10_43 (by decide) (feq pc_2).2 <| oI 82 X0 d10_81 rfl rfl <| oc 83 (v := 3) X0 d10_82 rfl (by decide) <| oY 127 X0 d10_83 (by decide) (feq pc_3).2 <| oI 128 X0 d10_127 rfl rfl ?_
  refine oc 129 (v := 4) X0 d10_128 rfl (by decide) <| oN 132 X0 d10_129 rfl (teq pc_4).2 <| o_new 135 X0 (w52 G) (w2 G) (w1 G) d10_132 rfl (by decide) (by decide) ?_
  intro _ h1 b1 X1 _ l1 E1 A1 D1 _ _ S1
  have f2 : fd1 Z h1 b1 .null := D1 (Or.inr (w4 G)) fd_0
  have f3 : fd0 Z h1 b1 (.int 0) := D1 (Or.inr (w5 G)) fd_1
  refine oD 136 X1 d10_135 rfl rfl <| ob 138 (v := 6) X1 d10_136 rfl (by decide) <| nP (aty := .char) 140 6 X1 (w9 G) d10_138 rfl (by decide) had_char ?_
  intro _ h4 b4 k4 X4 _ _ E4 V4 A4 C4 _
  have V5 : av1 Z h4 b4 k4 6 [i0, i0, i0, i0, i0, i0] := V4.pad (pad_rep [] (.int (0 : Int32)) 6)
  refine oD 141 X4 d10_140 rfl rfl <| oc 142 (v := 0) X4 d10_141 rfl (by decide) <| oA 143 X4 d10_142 rfl rfl <| oc 144 (v := 0) X4 d10_143 rfl (by decide) ?_
  have f6 := (F0.ext E1).ext E4
  refine oC 145 (v := (.int pi1)) X4 f6 ⟨by decide, by decide⟩ rfl d10_144 rfl <| sC 146 0 pi1 X4 V5 (by decide) (lb rfl) (own_narC rg_pi1) d10_145 rfl (by omega) (Or.inr (by omega)) (sx X4 A4 nc0) ?_
  rintro _ _ X7 ⟨_, _, W7⟩ C7 V7
  have := W7.size
  have V8 := V7.as [.int pi1, i0, i0, i0, i0, i0] rfl
  refine oD 147 X7 d10_146 rfl rfl <| oc 148 (v := 1) X7 d10_147 rfl (by decide) <| oA 149 X7 d10_148 rfl rfl <| oc 150 (v := 1) X7 d10_149 rfl (by decide) ?_
  have f9 := f6.oth W7 (by omega)
  refine oC 151 (v := (.int pi2)) X7 f9 ⟨by decide, by decide⟩ rfl d10_150 rfl ?_
  have f11 := A4.wr W7
  refine sC 152 1 pi2 X7 V8 (by decide) (lb rfl) (own_narC rg_pi2) d10_151 rfl (by omega) (Or.inr (by omega)) (sx X7 f11 nc0) ?_
  rintro _ _ X10 ⟨_, _, W10⟩ C10 V10
  have := W10.size
  have V12 := V10.as [.int pi1, .int pi2, i0, i0, i0, i0] rfl
  refine oD 153 X10 d10_152 rfl rfl <| oc 154 (v := 2) X10 d10_153 rfl (by decide) <| oA 155 X10 d10_154 rfl rfl <| oc 156 (v := 2) X10 d10_155 rfl (by decide) ?_
  have f13 := f9.oth W10 (by omega)
  refine oC 157 (v := (.int pi3)) X10 f13 ⟨by decide, by decide⟩ rfl d10_156 rfl ?_
  have f15 := f11.wr W10
  refine sC 158 2 pi3 X10 V12 (by decide) (lb rfl) (own_narC rg_pi3) d10_157 rfl (by omega) (Or.inr (by omega)) (sx X10 f15 nc0) ?_
  rintro _ _ X14 ⟨_, _, W14⟩ C14 V14
  have := W14.size
  have V16 := V14.as [.int pi1, .int pi2, .int pi3, i0, i0, i0] rfl
  refine oD 159 X14 d10_158 rfl rfl <| oc 160 (v := 3) X14 d10_159 rfl (by decide) <| oA 161 X14 d10_160 rfl rfl <| oc 162 (v := 3) X14 d10_161 rfl (by decide) ?_
  have f17 := f13.oth W14 (by omega)
  refine oC 163 (v := (.int pi4)) X14 f17 ⟨by decide, by decide⟩ rfl d10_162 rfl ?_
  have f19 := f15.wr W14
  refine sC 164 3 pi4 X14 V16 (by decide) (lb rfl) (own_narC rg_pi4) d10_163 rfl (by omega) (Or.inr (by omega)) (sx X14 f19 nc0) ?_
  rintro _ _ X18 ⟨_, _, W18⟩ C18 V18
  have := W18.size
  have V20 := V18.as [.int pi1, .int pi2, .int pi3, .int pi4, i0, i0] rfl
  refine oD 165 X18 d10_164 rfl rfl <| oc 166 (v := 4) X18 d10_165 rfl (by decide) <| oA 167 X18 d10_166 rfl rfl <| oc 168 (v := 4) X18 d10_167 rfl (by decide) ?_
  have f21 := f17.oth W18 (by omega)
  refine oC 169 (v := (.int pi5)) X18 f21 ⟨by decide, by decide⟩ rfl d10_168 rfl ?_
  have f23 := f19.wr W18
  refine sC 170 4 pi5 X18 V20 (by decide) (lb rfl) (own_narC rg_pi5) d10_169 rfl (by omega) (Or.inr (by omega)) (sx X18 f23 nc0) ?_
  rintro _ _ X22 ⟨_, _, W22⟩ C22 V22
  have := W22.size
  have V24 := V22.as [.int pi1, .int pi2, .int pi3, .int pi4, .int pi5, i0] rfl
  refine oD 171 X22 d10_170 rfl rfl <| oc 172 (v := 5) X22 d10_171 rfl (by decide) <| oA 173 X22 d10_172 rfl rfl <| oc 174 (v := 5) X22 d10_173 rfl (by decide) ?_
  have f25 := f21.oth W22 (by omega)
  refine oC 175 (v := (.int pi6)) X22 f25 ⟨by decide, by decide⟩ rfl d10_174 rfl ?_
  have f27 := f23.wr W22
  refine sC 176 5 pi6 X22 V24 (by decide) (lb rfl) (own_narC rg_pi6) d10_175 rfl (by omega) (Or.inr (by omega)) (sx X22 f27 nc0) ?_
  rintro _ _ X26 ⟨_, _, W26⟩ C26 V26
  have := W26.size
  have V28 := V26.as [.int pi1, .int pi2, .int pi3, .int pi4, .int pi5, .int pi6] rfl
  have f29 := ((((((A1.ext E4).wr W7).wr W10).wr W14).wr W18).wr W22).wr W26
  have f30 := ((((((f3.ext E4).oth W7 (by omega)).oth W10 (by omega)).oth W14 (by omega)).oth W18 (by omega)).oth W22 (by omega)).oth W26 (by omega)
  have f31 := ((((((f2.ext E4).oth W7 (by omega)).oth W10 (by omega)).oth W14 (by omega)).oth W18 (by omega)).oth W22 (by omega)).oth W26 (by omega)
  have f32 := C26.safe (own_lt (by omega)) (C22.safe (own_lt (by omega)) (C18.safe (own_lt (by omega)) (C14.safe (own_lt (by omega)) (C10.safe (own_lt (by omega)) (C7.safe (own_lt (by omega)) (C4.safe (own_lt (by omega)) S1))))))
  refine mP 179 1 X26 (rm_au76 G f29 f30 f31 V28 rg_pi1 rg_pi2 rg_pi3 rg_pi4 rg_pi5 rg_pi6 (by omega)) (u21 G) (sS (by omega) f32 all0) d10_176 rfl rfl rfl lr (by decide) (aR (by omega) all0) ?_
  rintro _ _ _ _ X33 ⟨xa1_34, xk1_35, rfl, q36, q37, q38, q39, q40, q41, _⟩ _ _ C33
  have f43 := C33.safe (own_lt (by omega)) f32
  exact oR X33 d10_179 rfl rfl rfl (by decide) (by decide) (fun _ CC => ⟨b1, xa1_34, xk1_35, rfl, q36, q37, q38, (CC.safe (own_lt (by omega)) f43), q39, q40, (CC.safe (own_lt (by omega)) q41), by omega⟩)
def Q34 (Z : State) (b1 : Addr) (b2 : ClassId) (b3 b4 b5 b6 b7 b8 b9 b10 b11 b12 b13 b14 b15 b16 b17 b18 b19 b20 b21 b22 : Int32) (h0 : Heap) (v : Option Value) (h : Heap) (vm : Vm) : Prop := v = some (.int 20) ∧ av0 Z h b1 b2 20 [.int (b3.toInt8.toInt32), .int (b4.toInt8.toInt32), .int (b5.toInt8.toInt32), .int (b6.toInt8.toInt32), .int (b7.toInt8.toInt32), .int (b8.toInt8.toInt32), .int (b9.toInt8.toInt32), .int (b10.toInt8.toInt32), .int (b11.toInt8.toInt32), .int (b12.toInt8.toInt32), .int (b13.toInt8.toInt32), .int (b14.toInt8.toInt32), .int (b15.toInt8.toInt32), .int (b16.toInt8.toInt32), .int (b17.toInt8.toInt32), .int (b18.toInt8.toInt32), .int (b19.toInt8.toInt32), .int (b20.toInt8.toInt32), .int (b21.toInt8.toInt32), .int (b22.toInt8.toInt32)] ∧ ex3 Z h b1
theorem rm_au78 (F0 : av1 Z h0 pa1 pk1 20 [.int pi1, .int pi2, .int pi3, .int pi4, .int pi5, .int pi6, .int pi7, .int pi8, .int pi9, .int pi10, .int pi11, .int pi12, .int pi13, .int pi14, .int pi15, .int pi16, .int pi17, .int pi18, .int pi19, .int pi20]) (F1 : av0 Z h0 pa2 pk2 20 [i0, i0, i0, i0, i0, i0, i0, i0, i0, i0, i0, i0, i0, i0, i0, i0, i0, i0, i0, i0]) (F2 : ex3 Z h0 pa2) (rg_pi1 : ¬ pi1 < 0 ∧ ¬ (255 : Int32) < pi1) (rg_pi2 : ¬ pi2 < 0 ∧ ¬ (255 : Int32) < pi2) (rg_pi3 : ¬ pi3 < 0 ∧ ¬ (255 : Int32) < pi3) (rg_pi4 : ¬ pi4 < 0 ∧ ¬ (255 : Int32) < pi4) (rg_pi5 : ¬ pi5 < 0 ∧ ¬ (255 : Int32) < pi5) (rg_pi6 : ¬ pi6 < 0 ∧ ¬ (255 : Int32) < pi6) (rg_pi7 : ¬ pi7 < 0 ∧ ¬ (255 : Int32) < pi7) (rg_pi8 : ¬ pi8 < 0 ∧ ¬ (255 : Int32) < pi8) (rg_pi9 : ¬ pi9 < 0 ∧ ¬ (255 : Int32) < pi9) (rg_pi10 : ¬ pi10 < 0 ∧ ¬ (255 : Int32) < pi10) (rg_pi11 : ¬ pi11 < 0 ∧ ¬ (255 : Int32) < pi11) (rg_pi12 : ¬ pi12 < 0 ∧ ¬ (255 : Int32) < pi12) (rg_pi13 : ¬ pi13 < 0 ∧ ¬ (255 : Int32) < pi13) (rg_pi14 : ¬ pi14 < 0 ∧ ¬ (255 : Int32) < pi14) (rg_pi15 : ¬ pi15 < 0 ∧ ¬ (255 : Int32) < pi15) (rg_pi16 : ¬ pi16 < 0 ∧ ¬ (255 : Int32) < pi16) (rg_pi17 : ¬ pi17 < 0 ∧ ¬ (255 : Int32) < pi17) (rg_pi18 : ¬ pi18 < 0 ∧ ¬ (255 : Int32) < pi18) (rg_pi19 : ¬ pi19 < 0 ∧ ¬ (255 : Int32) < pi19) (rg_pi20 : ¬ pi20 < 0 ∧ ¬ (255 : Int32) < pi20) (ne : NE pa1 pa2 ∧ n0 ≤ pa2) : M20 G 0 0 0 0 #[.ref pa1, i0, .ref pa2, i0, .int 20] h0 n0 [pa2] [pa2] (Q34 Z pa2 pk2 pi1 pi2 pi3 pi4 pi5 pi6 pi7 pi8 pi9 pi10 pi11 pi12 pi13 pi14 pi15 pi16 pi17 pi18 pi19 pi20 h0) := by
  refine mi B20 ef14 (hEW G) fun s X0 hsf0 n0le => ?_
  have := F0.l
  have := F1.l
  have sf_pa2 := hsf0 pa2 (by simp)
  refine oc 1 (v := 0) X0 d20_0 rfl (by decide) <| oS 3 (l' := #[rr pa1, ii 0, rr pa2, ii 0, ii 20, ii 0, uu]) X0 d20_1 rfl rfl <| oi 5 X0 d20_3 rfl rfl <| oi 7 X0 d20_5 rfl rfl <| oN 10 X0 d20_7 rfl (tlt (by decide)).2.1 <| oA 11 X0 d20_10 rfl rfl <| oI 12 X0 d20_11 rfl rfl <| oC 13 (v := (.int pi1)) X0 F0 ⟨by decide, by decide⟩ rfl d20_12 rfl <| oS 15 (l' := #[rr pa1, ii 0, rr pa2, ii 0, ii 20, ii 0, ii pi1]) X0 d20_13 rfl rfl <| oi 17 X0 d20_15 rfl rfl <| o_sipush 20 (v := 255) X0 d20_17 rfl (by decide) <| oY 26 X0 d20_20 (by decide) (flt rg_pi1.2).2.2.2 ?_
  refine oA 27 X0 d20_26 rfl rfl <| oI 28 X0 d20_27 rfl rfl <| oi 30 X0 d20_28 rfl rfl <| o_i2b 31 (v := (pi1.toInt8.toInt32)) X0 d20_30 rfl rfl <| sB 32 0 (pi1.toInt8.toInt32) X0 F1 (by decide) (lb rfl) (own_narB _) d20_31 rfl (by omega) (Or.inl (by simp)) sf_pa2 ?_
  rintro _ _ X1 ⟨_, _, W1⟩ C1 V1
  have := W1.size
  have V2 := V1.as [.int (pi1.toInt8.toInt32), i0, i0, i0, i0, i0, i0, i0, i0, i0, i0, i0, i0, i0, i0, i0, i0, i0, i0, i0] rfl
  refine oJ 35 1 #[rr pa1, ii 1, rr pa2, ii 0, ii 20, ii 0, ii pi1] X1 d20_32 rfl rfl (by decide) rfl <| oJ 38 1 #[rr pa1, ii 1, rr pa2, ii 1, ii 20, ii 0, ii pi1] X1 d20_35 rfl rfl (by decide) rfl <| oJ 41 1 #[rr pa1, ii 1, rr pa2, ii 1, ii 20, ii 1, ii pi1] X1 d20_38 rfl rfl (by decide) rfl <| og 3 X1 d20_41 (by decide) <| oi 5 X1 d20_3 rfl rfl <| oi 7 X1 d20_5 rfl rfl <| oN 10 X1 d20_7 rfl (tlt (by decide)).2.1 <| oA 11 X1 d20_10 rfl rfl <| oI 12 X1 d20_11 rfl rfl ?_
  have f3 := F0.oth W1 (by omega)
  refine oC 13 (v := (.int pi2)) X1 f3 ⟨by decide, by decide⟩ rfl d20_12 rfl <| oS 15 (l' := #[rr pa1, ii 1, rr pa2, ii 1, ii 20, ii 1, ii pi2]) X1 d20_13 rfl rfl <| oi 17 X1 d20_15 rfl rfl <| o_sipush 20 (v := 255) X1 d20_17 rfl (by decide) <| oY 26 X1 d20_20 (by decide) (flt rg_pi2.2).2.2.2 <| oA 27 X1 d20_26 rfl rfl <| oI 28 X1 d20_27 rfl rfl <| oi 30 X1 d20_28 rfl rfl <| o_i2b 31 (v := (pi2.toInt8.toInt32)) X1 d20_30 rfl rfl ?_
  have f5 := C1.safe (own_lt (by omega)) sf_pa2
  refine sB 32 1 (pi2.toInt8.toInt32) X1 V2 (by decide) (lb rfl) (own_narB _) d20_31 rfl (by omega) (Or.inl (by simp)) f5 ?_
  rintro _ _ X4 ⟨_, _, W4⟩ C4 V4
  have := W4.size
  have V6 := V4.as [.int (pi1.toInt8.toInt32), .int (pi2.toInt8.toInt32), i0, i0, i0, i0, i0, i0, i0, i0, i0, i0, i0, i0, i0, i0, i0, i0, i0, i0] rfl
  refine oJ 35 2 #[rr pa1, ii 2, rr pa2, ii 1, ii 20, ii 1, ii pi2] X4 d20_32 rfl rfl (by decide) rfl <| oJ 38 2 #[rr pa1, ii 2, rr pa2, ii 2, ii 20, ii 1, ii pi2] X4 d20_35 rfl rfl (by decide) rfl <| oJ 41 2 #[rr pa1, ii 2, rr pa2, ii 2, ii 20, ii 2, ii pi2] X4 d20_38 rfl rfl (by decide) rfl <| og 3 X4 d20_41 (by decide) <| oi 5 X4 d20_3 rfl rfl <| oi 7 X4 d20_5 rfl rfl <| oN 10 X4 d20_7 rfl (tlt (by decide)).2.1 <| oA 11 X4 d20_10 rfl rfl <| oI 12 X4 d20_11 rfl rfl ?_
  have f7 := f3.oth W4 (by omega)
  refine oC 13 (v := (.int pi3)) X4 f7 ⟨by decide, by decide⟩ rfl d20_12 rfl <| oS 15 (l' := #[rr pa1, ii 2, rr pa2, ii 2, ii 20, ii 2, ii pi3]) X4 d20_13 rfl rfl <| oi 17 X4 d20_15 rfl rfl <| o_sipush 20 (v := 255) X4 d20_17 rfl (by decide) <| oY 26 X4 d20_20 (by decide) (flt rg_pi3.2).2.2.2 <| oA 27 X4 d20_26 rfl rfl <| oI 28 X4 d20_27 rfl rfl <| oi 30 X4 d20_28 rfl rfl <| o_i2b 31 (v := (pi3.toInt8.toInt32)) X4 d20_30 rfl rfl ?_
  have f9 := C4.safe (own_lt (by omega)) f5
  refine sB 32 2 (pi3.toInt8.toInt32) X4 V6 (by decide) (lb rfl) (own_narB _) d20_31 rfl (by omega) (Or.inl (by simp)) f9 ?_
  rintro _ _ X8 ⟨_, _, W8⟩ C8 V8
  have := W8.size
  have V10 := V8.as [.int (pi1.toInt8.toInt32), .int (pi2.toInt8.toInt32), .int (pi3.toInt8.toInt32), i0, i0, i0, i0, i0, i0, i0, i0, i0, i0, i0, i0, i0, i0, i0, i0, i0] rfl
  refine oJ 35 3 #[rr pa1, ii 3, rr pa2, ii 2, ii 20, ii 2, ii pi3] X8 d20_32 rfl rfl (by decide) rfl <| oJ 38 3 #[rr pa1, ii 3, rr pa2, ii 3, ii 20, ii 2, ii pi3] X8 d20_35 rfl rfl (by decide) rfl <| oJ 41 3 #[rr pa1, ii 3, rr pa2, ii 3, ii 20, ii 3, ii pi3] X8 d20_38 rfl rfl (by decide) rfl <| og 3 X8 d20_41 (by decide) <| oi 5 X8 d20_3 rfl rfl <| oi 7 X8 d20_5 rfl rfl <| oN 10 X8 d20_7 rfl (tlt (by decide)).2.1 <| oA 11 X8 d20_10 rfl rfl <| oI 12 X8 d20_11 rfl rfl ?_
  have f11 := f7.oth W8 (by omega)
  refine oC 13 (v := (.int pi4)) X8 f11 ⟨by decide, by decide⟩ rfl d20_12 rfl <| oS 15 (l' := #[rr pa1, ii 3, rr pa2, ii 3, ii 20, ii 3, ii pi4]) X8 d20_13 rfl rfl <| oi 17 X8 d20_15 rfl rfl <| o_sipush 20 (v := 255) X8 d20_17 rfl (by decide) <| oY 26 X8 d20_20 (by decide) (flt rg_pi4.2).2.2.2 <| oA 27 X8 d20_26 rfl rfl <| oI 28 X8 d20_27 rfl rfl <| oi 30 X8 d20_28 rfl rfl <| o_i2b 31 (v := (pi4.toInt8.toInt32)) X8 d20_30 rfl rfl ?_
  have f13 := C8.safe (own_lt (by omega)) f9
  refine sB 32 3 (pi4.toInt8.toInt32) X8 V10 (by decide) (lb rfl) (own_narB _) d20_31 rfl (by omega) (Or.inl (by simp)) f13 ?_
  rintro _ _ X12 ⟨_, _, W12⟩ C12 V12
  have := W12.size
  have V14 := V12.as [.int (pi1.toInt8.toInt32), .int (pi2.toInt8.toInt32), .int (pi3.toInt8.toInt32), .int (pi4.toInt8.toInt32), i0, i0, i0, i0, i0, i0, i0, i0, i0, i0, i0, i0, i0, i0, i0, i0] rfl
  refine oJ 35 4 #[rr pa1, ii 4, rr pa2, ii 3, ii 20, ii 3, ii pi4] X12 d20_32 rfl rfl (by decide) rfl <| oJ 38 4 #[rr pa1, ii 4, rr pa2, ii 4, ii 20, ii 3, ii pi4] X12 d20_35 rfl rfl (by decide) rfl <| oJ 41 4 #[rr pa1, ii 4, rr pa2, ii 4, ii 20, ii 4, ii pi4] X12 d20_38 rfl rfl (by decide) rfl <| og 3 X12 d20_41 (by decide) <| oi 5 X12 d20_3 rfl rfl <| oi 7 X12 d20_5 rfl rfl <| oN 10 X12 d20_7 rfl (tlt (by decide)).2.1 <| oA 11 X12 d20_10 rfl rfl <| oI 12 X12 d20_11 rfl rfl ?_
  have f15 := f11.oth W12 (by omega)
  refine oC 13 (v := (.int pi5)) X12 f15 ⟨by decide, by decide⟩ rfl d20_12 rfl <| oS 15 (l' := #[rr pa1, ii 4, rr pa2, ii 4, ii 20, ii 4, ii pi5]) X12 d20_13 rfl rfl <| oi 17 X12 d20_15 rfl rfl <| o_sipush 20 (v := 255) X12 d20_17 rfl (by decide) <| oY 26 X12 d20_20 (by decide) (flt rg_pi5.2).2.2.2 <| oA 27 X12 d20_26 rfl rfl <| oI 28 X12 d20_27 rfl rfl <| oi 30 X12 d20_28 rfl rfl <| o_i2b 31 (v := (pi5.toInt8.toInt32)) X12 d20_30 rfl rfl ?_
  have f17 := C12.safe (own_lt (by omega)) f13
  refine sB 32 4 (pi5.toInt8.toInt32) X12 V14 (by decide) (lb rfl) (own_narB _) d20_31 rfl (by omega) (Or.inl (by simp)) f17 ?_
  rintro _ _ X16 ⟨_, _, W16⟩ C16 V16
  have := W16.size
  have V18 := V16.as [.int (pi1.toInt8.toInt32), .int (pi2.toInt8.toInt32), .int (pi3.toInt8.toInt32), .int (pi4.toInt8.toInt32), .int (pi5.toInt8.toInt32), i0, i0, i0, i0, i0, i0, i0, i0, i0, i0, i0, i0, i0, i0, i0] rfl
  refine oJ 35 5 #[rr pa1, ii 5, rr pa2, ii 4, ii 20, ii 4, ii pi5] X16 d20_32 rfl rfl (by decide) rfl <| oJ 38 5 #[rr pa1, ii 5, rr pa2, ii 5, ii 20, ii 4, ii pi5] X16 d20_35 rfl rfl (by decide) rfl <| oJ 41 5 #[rr pa1, ii 5, rr pa2, ii 5, ii 20, ii 5, ii pi5] X16 d20_38 rfl rfl (by decide) rfl <| og 3 X16 d20_41 (by decide) <| oi 5 X16 d20_3 rfl rfl <| oi 7 X16 d20_5 rfl rfl <| oN 10 X16 d20_7 rfl (tlt (by decide)).2.1 <| oA 11 X16 d20_10 rfl rfl <| oI 12 X16 d20_11 rfl rfl ?_
  have f19 := f15.oth W16 (by omega)
  refine oC 13 (v := (.int pi6)) X16 f19 ⟨by decide, by decide⟩ rfl d20_12 rfl <| oS 15 (l' := #[rr pa1, ii 5, rr pa2, ii 5, ii 20, ii 5, ii pi6]) X16 d20_13 rfl rfl <| oi 17 X16 d20_15 rfl rfl <| o_sipush 20 (v := 255) X16 d20_17 rfl (by decide) <| oY 26 X16 d20_20 (by decide) (flt rg_pi6.2).2.2.2 <| oA 27 X16 d20_26 rfl rfl <| oI 28 X16 d20_27 rfl rfl <| oi 30 X16 d20_28 rfl rfl <| o_i2b 31 (v := (pi6.toInt8.toInt32)) X16 d20_30 rfl rfl ?_
  have f21 := C16.safe (own_lt (by omega)) f17
  refine sB 32 5 (pi6.toInt8.toInt32) X16 V18 (by decide) (lb rfl) (own_narB _) d20_31 rfl (by omega) (Or.inl (by simp)) f21 ?_
  rintro _ _ X20 ⟨_, _, W20⟩ C20 V20
  have := W20.size
  have V22 := V20.as [.int (pi1.toInt8.toInt32), .int (pi2.toInt8.toInt32), .int (pi3.toInt8.toInt32), .int (pi4.toInt8.toInt32), .int (pi5.toInt8.toInt32), .int (pi6.toInt8.toInt32), i0, i0, i0, i0, i0, i0, i0, i0, i0, i0, i0, i0, i0, i0] rfl
  refine oJ 35 6 #[rr pa1, ii 6, rr pa2, ii 5, ii 20, ii 5, ii pi6] X20 d20_32 rfl rfl (by decide) rfl <| oJ 38 6 #[rr pa1, ii 6, rr pa2, ii 6, ii 20, ii 5, ii pi6] X20 d20_35 rfl rfl (by decide) rfl <| oJ 41 6 #[rr pa1, ii 6, rr pa2, ii 6, ii 20, ii 6, ii pi6] X20 d20_38 rfl rfl (by decide) rfl <| og 3 X20 d20_41 (by decide) <| oi 5 X20 d20_3 rfl rfl <| oi 7 X20 d20_5 rfl rfl <| oN 10 X20 d20_7 rfl (tlt (by decide)).2.1 <| oA 11 X20 d20_10 rfl rfl <| oI 12 X20 d20_11 rfl rfl ?_
  have f23 := f19.oth W20 (by omega)
  refine oC 13 (v := (.int pi7)) X20 f23 ⟨by decide, by decide⟩ rfl d20_12 rfl <| oS 15 (l' := #[rr pa1, ii 6, rr pa2, ii 6, ii 20, ii 6, ii pi7]) X20 d20_13 rfl rfl <| oi 17 X20 d20_15 rfl rfl <| o_sipush 20 (v := 255) X20 d20_17 rfl (by decide) <| oY 26 X20 d20_20 (by decide) (flt rg_pi7.2).2.2.2 <| oA 27 X20 d20_26 rfl rfl <| oI 28 X20 d20_27 rfl rfl <| oi 30 X20 d20_28 rfl rfl <| o_i2b 31 (v := (pi7.toInt8.toInt32)) X20 d20_30 rfl rfl ?_
  have f25 := C20.safe (own_lt (by omega)) f21
  refine sB 32 6 (pi7.toInt8.toInt32) X20 V22 (by decide) (lb rfl) (own_narB _) d20_31 rfl (by omega) (Or.inl (by simp)) f25 ?_
  rintro _ _ X24 ⟨_, _, W24⟩ C24 V24
  have := W24.size
  have V26 := V24.as [.int (pi1.toInt8.toInt32), .int (pi2.toInt8.toInt32), .int (pi3.toInt8.toInt32), .int (pi4.toInt8.toInt32), .int (pi5.toInt8.toInt32), .int (pi6.toInt8.toInt32), .int (pi7.toInt8.toInt32), i0, i0, i0, i0, i0, i0, i0, i0, i0, i0, i0, i0, i0] rfl
  refine oJ 35 7 #[rr pa1, ii 7, rr pa2, ii 6, ii 20, ii 6, ii pi7] X24 d20_32 rfl rfl (by decide) rfl <| oJ 38 7 #[rr pa1, ii 7, rr pa2, ii 7, ii 20, ii 6, ii pi7] X24 d20_35 rfl rfl (by decide) rfl <| oJ 41 7 #[rr pa1, ii 7, rr pa2, ii 7, ii 20, ii 7, ii pi7] X24 d20_38 rfl rfl (by decide) rfl <| og 3 X24 d20_41 (by decide) <| oi 5 X24 d20_3 rfl rfl <| oi 7 X24 d20_5 rfl rfl <| oN 10 X24 d20_7 rfl (tlt (by decide)).2.1 <| oA 11 X24 d20_10 rfl rfl <| oI 12 X24 d20_11 rfl rfl ?_
  have f27 := f23.oth W24 (by omega)
  refine oC 13 (v := (.int pi8)) X24 f27 ⟨by decide, by decide⟩ rfl d20_12 rfl <| oS 15 (l' := #[rr pa1, ii 7, rr pa2, ii 7, ii 20, ii 7, ii pi8]) X24 d20_13 rfl rfl <| oi 17 X24 d20_15 rfl rfl <| o_sipush 20 (v := 255) X24 d20_17 rfl (by decide) <| oY 26 X24 d20_20 (by decide) (flt rg_pi8.2).2.2.2 <| oA 27 X24 d20_26 rfl rfl <| oI 28 X24 d20_27 rfl rfl <| oi 30 X24 d20_28 rfl rfl <| o_i2b 31 (v := (pi8.toInt8.toInt32)) X24 d20_30 rfl rfl ?_
  have f29 := C24.safe (own_lt (by omega)) f25
  refine sB 32 7 (pi8.toInt8.toInt32) X24 V26 (by decide) (lb rfl) (own_narB _) d20_31 rfl (by omega) (Or.inl (by simp)) f29 ?_
  rintro _ _ X28 ⟨_, _, W28⟩ C28 V28
  have := W28.size
  have V30 := V28.as [.int (pi1.toInt8.toInt32), .int (pi2.toInt8.toInt32), .int (pi3.toInt8.toInt32), .int (pi4.toInt8.toInt32), .int (pi5.toInt8.toInt32), .int (pi6.toInt8.toInt32), .int (pi7.toInt8.toInt32), .int (pi8.toInt8.toInt32), i0, i0, i0, i0, i0, i0, i0, i0, i0, i0, i0, i0] rfl
  refine oJ 35 8 #[rr pa1, ii 8, rr pa2, ii 7, ii 20, ii 7, ii pi8] X28 d20_32 rfl rfl (by decide) rfl <| oJ 38 8 #[rr pa1, ii 8, rr pa2, ii 8, ii 20, ii 7, ii pi8] X28 d20_35 rfl rfl (by decide) rfl <| oJ 41 8 #[rr pa1, ii 8, rr pa2, ii 8, ii 20, ii 8, ii pi8] X28 d20_38 rfl rfl (by decide) rfl <| og 3 X28 d20_41 (by decide) <| oi 5 X28 d20_3 rfl rfl <| oi 7 X28 d20_5 rfl rfl <| oN 10 X28 d20_7 rfl (tlt (by decide)).2.1 <| oA 11 X28 d20_10 rfl rfl <| oI 12 X28 d20_11 rfl rfl ?_
  have f31 := f27.oth W28 (by omega)
  refine oC 13 (v := (.int pi9)) X28 f31 ⟨by decide, by decide⟩ rfl d20_12 rfl <| oS 15 (l' := #[rr pa1, ii 8, rr pa2, ii 8, ii 20, ii 8, ii pi9]) X28 d20_13 rfl rfl <| oi 17 X28 d20_15 rfl rfl <| o_sipush 20 (v := 255) X28 d20_17 rfl (by decide) <| oY 26 X28 d20_20 (by decide) (flt rg_pi9.2).2.2.2 <| oA 27 X28 d20_26 rfl rfl <| oI 28 X28 d20_27 rfl rfl <| oi 30 X28 d20_28 rfl rfl <| o_i2b 31 (v := (pi9.toInt8.toInt32)) X28 d20_30 rfl rfl ?_
  have f33 := C28.safe (own_lt (by omega)) f29
  refine sB 32 8 (pi9.toInt8.toInt32) X28 V30 (by decide) (lb rfl) (own_narB _) d20_31 rfl (by omega) (Or.inl (by simp)) f33 ?_
  rintro _ _ X32 ⟨_, _, W32⟩ C32 V32
  have := W32.size
  have V34 := V32.as [.int (pi1.toInt8.toInt32), .int (pi2.toInt8.toInt32), .int (pi3.toInt8.toInt32), .int (pi4.toInt8.toInt32), .int (pi5.toInt8.toInt32), .int (pi6.toInt8.toInt32), .int (pi7.toInt8.toInt32), .int (pi8.toInt8.toInt32), .int (pi9.toInt8.toInt32), i0, i0, i0, i0, i0, i0, i0, i0, i0, i0, i0] rfl
  refine oJ 35 9 #[rr pa1, ii 9, rr pa2, ii 8, ii 20, ii 8, ii pi9] X32 d20_32 rfl rfl (by decide) rfl <| oJ 38 9 #[rr pa1, ii 9, rr pa2, ii 9, ii 20, ii 8, ii pi9] X32 d20_35 rfl rfl (by decide) rfl <| oJ 41 9 #[rr pa1, ii 9, rr pa2, ii 9, ii 20, ii 9, ii pi9] X32 d20_38 rfl rfl (by decide) rfl <| og 3 X32 d20_41 (by decide) <| oi 5 X32 d20_3 rfl rfl <| oi 7 X32 d20_5 rfl rfl <| oN 10 X32 d20_7 rfl (tlt (by decide)).2.1 <| oA 11 X32 d20_10 rfl rfl <| oI 12 X32 d20_11 rfl rfl ?_
  have f35 := f31.oth W32 (by omega)
  refine oC 13 (v := (.int pi10)) X32 f35 ⟨by decide, by decide⟩ rfl d20_12 rfl <| oS 15 (l' := #[rr pa1, ii 9, rr pa2, ii 9, ii 20, ii 9, ii pi10]) X32 d20_13 rfl rfl <| oi 17 X32 d20_15 rfl rfl <| o_sipush 20 (v := 255) X32 d20_17 rfl (by decide) <| oY 26 X32 d20_20 (by decide) (flt rg_pi10.2).2.2.2 <| oA 27 X32 d20_26 rfl rfl <| oI 28 X32 d20_27 rfl rfl <| oi 30 X32 d20_28 rfl rfl <| o_i2b 31 (v := (pi10.toInt8.toInt32)) X32 d20_30 rfl rfl ?_
  have f37 := C32.safe (own_lt (by omega)) f33
  refine sB 32 9 (pi10.toInt8.toInt32) X32 V34 (by decide) (lb rfl) (own_narB _) d20_31 rfl (by omega) (Or.inl (by simp)) f37 ?_
  rintro _ _ X36 ⟨_, _, W36⟩ C36 V36
  have := W36.size
  have V38 := V36.as [.int (pi1.toInt8.toInt32), .int (pi2.toInt8.toInt32), .int (pi3.toInt8.toInt32), .int (pi4.toInt8.toInt32), .int (pi5.toInt8.toInt32), .int (pi6.toInt8.toInt32), .int (pi7.toInt8.toInt32), .int (pi8.toInt8.toInt32), .int (pi9.toInt8.toInt32), .int (pi10.toInt8.toInt32), i0, i0, i0, i0, i0, i0, i0, i0, i0, i0] rfl
  refine oJ 35 10 #[rr pa1, ii 10, rr pa2, ii 9, ii 20, ii 9, ii pi10] X36 d20_32 rfl rfl (by decide) rfl <| oJ 38 10 #[rr pa1, ii 10, rr pa2, ii 10, ii 20, ii 9, ii pi10] X36 d20_35 rfl rfl (by decide) rfl <| oJ 41 10 #[rr pa1, ii 10, rr pa2, ii 10, ii 20, ii 10, ii pi10] X36 d20_38 rfl rfl (by decide) rfl <| og 3 X36 d20_41 (by decide) <| oi 5 X36 d20_3 rfl rfl <| oi 7 X36 d20_5 rfl rfl <| oN 10 X36 d20_7 rfl (tlt (by decide)).2.1 <| oA 11 X36 d20_10 rfl rfl <| oI 12 X36 d20_11 rfl rfl ?_
  have f39 := f35.oth W36 (by omega)
  refine oC 13 (v := (.int pi11)) X36 f39 ⟨by decide, by decide⟩ rfl d20_12 rfl <| oS 15 (l' := #[rr pa1, ii 10, rr pa2, ii 10, ii 20, ii 10, ii pi11]) X36 d20_13 rfl rfl <| oi 17 X36 d20_15 rfl rfl <| o_sipush 20 (v := 255) X36 d20_17 rfl (by decide) <| oY 26 X36 d20_20 (by decide) (flt rg_pi11.2).2.2.2 <| oA 27 X36 d20_26 rfl rfl <| oI 28 X36 d20_27 rfl rfl <| oi 30 X36 d20_28 rfl rfl <| o_i2b 31 (v := (pi11.toInt8.toInt32)) X36 d20_30 rfl rfl ?_
  have f41 := C36.safe (own_lt (by omega)) f37
  refine sB 32 10 (pi11.toInt8.toInt32) X36 V38 (by decide) (lb rfl) (own_narB _) d20_31 rfl (by omega) (Or.inl (by simp)) f41 ?_
  rintro _ _ X40 ⟨_, _, W40⟩ C40 V40
  have := W40.size
  have V42 := V40.as [.int (pi1.toInt8.toInt32), .int (pi2.toInt8.toInt32), .int (pi3.toInt8.toInt32), .int (pi4.toInt8.toInt32), .int (pi5.toInt8.toInt32), .int (pi6.toInt8.toInt32), .int (pi7.toInt8.toInt32), .int (pi8.toInt8.toInt32), .int (pi9.toInt8.toInt32), .int (pi10.toInt8.toInt32), .int (pi11.toInt8.toInt32), i0, i0, i0, i0, i0, i0, i0, i0, i0] rfl
  refine oJ 35 11 #[rr pa1, ii 11, rr pa2, ii 10, ii 20, ii 10, ii pi11] X40 d20_32 rfl rfl (by decide) rfl <| oJ 38 11 #[rr pa1, ii 11, rr pa2, ii 11, ii 20, ii 10, ii pi11] X40 d20_35 rfl rfl (by decide) rfl <| oJ 41 11 #[rr pa1, ii 11, rr pa2, ii 11, ii 20, ii 11, ii pi11] X40 d20_38 rfl rfl (by decide) rfl <| og 3 X40 d20_41 (by decide) <| oi 5 X40 d20_3 rfl rfl <| oi 7 X40 d20_5 rfl rfl <| oN 10 X40 d20_7 rfl (tlt (by decide)).2.1 <| oA 11 X40 d20_10 rfl rfl <| oI 12 X40 d20_11 rfl rfl ?_
  have f43 := f39.oth W40 (by omega)
  refine oC 13 (v := (.int pi12)) X40 f43 ⟨by decide, by decide⟩ rfl d20_12 rfl <| oS 15 (l' := #[rr pa1, ii 11, rr pa2, ii 11, ii 20, ii 11, ii pi12]) X40 d20_13 rfl rfl <| oi 17 X40 d20_15 rfl rfl <| o_sipush 20 (v := 255) X40 d20_17 rfl (by decide) <| oY 26 X40 d20_20 (by decide) (flt rg_pi12.2).2.2.2 <| oA 27 X40 d20_26 rfl rfl <| oI 28 X40 d20_27 rfl rfl <| oi 30 X40 d20_28 rfl rfl <| o_i2b 31 (v := (pi12.toInt8.toInt32)) X40 d20_30 rfl rfl ?_
  have f45 := C40.safe (own_lt (by omega)) f41
  refine sB 32 11 (pi12.toInt8.toInt32) X40 V42 (by decide) (lb rfl) (own_narB _) d20_31 rfl (by omega) (Or.inl (by simp)) f45 ?_
  rintro _ _ X44 ⟨_, _, W44⟩ C44 V44
  have := W44.size
  have V46 := V44.as [.int (pi1.toInt8.toInt32), .int (pi2.toInt8.toInt32), .int (pi3.toInt8.toInt32), .int (pi4.toInt8.toInt32), .int (pi5.toInt8.toInt32), .int (pi6.toInt8.toInt32), .int (pi7.toInt8.toInt32), .int (pi8.toInt8.toInt32), .int (pi9.toInt8.toInt32), .int (pi10.toInt8.toInt32), .int (pi11.toInt8.toInt32), .int (pi12.toInt8.toInt32), i0, i0, i0, i0, i0, i0, i0, i0] rfl
  refine oJ 35 12 #[rr pa1, ii 12, rr pa2, ii 11, ii 20, ii 11, ii pi12] X44 d20_32 rfl rfl (by decide) rfl <| oJ 38 12 #[rr pa1, ii 12, rr pa2, ii 12, ii 20, ii 11, ii pi12] X44 d20_35 rfl rfl (by decide) rfl <| oJ 41 12 #[rr pa1, ii 12, rr pa2, ii 12, ii 20, ii 12, ii pi12] X44 d20_38 rfl rfl (by decide) rfl <| og 3 X44 d20_41 (by decide) <| oi 5 X44 d20_3 rfl rfl <| oi 7 X44 d20_5 rfl rfl <| oN 10 X44 d20_7 rfl (tlt (by decide)).2.1 <| oA 11 X44 d20_10 rfl rfl <| oI 12 X44 d20_11 rfl rfl ?_
  have f47 := f43.oth W44 (by omega)
  refine oC 13 (v := (.int pi13)) X44 f47 ⟨by decide, by decide⟩ rfl d20_12 rfl <| oS 15 (l' := #[rr pa1, ii 12, rr pa2, ii 12, ii 20, ii 12, ii pi13]) X44 d20_13 rfl rfl <| oi 17 X44 d20_15 rfl rfl <| o_sipush 20 (v := 255) X44 d20_17 rfl (by decide) <| oY 26 X44 d20_20 (by decide) (flt rg_pi13.2).2.2.2 <| oA 27 X44 d20_26 rfl rfl <| oI 28 X44 d20_27 rfl rfl <| oi 30 X44 d20_28 rfl rfl <| o_i2b 31 (v := (pi13.toInt8.toInt32)) X44 d20_30 rfl rfl ?_
  have f49 := C44.safe (own_lt (by omega)) f45
  refine sB 32 12 (pi13.toInt8.toInt32) X44 V46 (by decide) (lb rfl) (own_narB _) d20_31 rfl (by omega) (Or.inl (by simp)) f49 ?_
  rintro _ _ X48 ⟨_, _, W48⟩ C48 V48
  have := W48.size
  have V50 := V48.as [.int (pi1.toInt8.toInt32), .int (pi2.toInt8.toInt32), .int (pi3.toInt8.toInt32), .int (pi4.toInt8.toInt32), .int (pi5.toInt8.toInt32), .int (pi6.toInt8.toInt32), .int (pi7.toInt8.toInt32), .int (pi8.toInt8.toInt32), .int (pi9.toInt8.toInt32), .int (pi10.toInt8.toInt32), .int (pi11.toInt8.toInt32), .int (pi12.toInt8.toInt32), .int (pi13.toInt8.toInt32), i0, i0, i0, i0, i0, i0, i0] rfl
  refine oJ 35 13 #[rr pa1, ii 13, rr pa2, ii 12, ii 20, ii 12, ii pi13] X48 d20_32 rfl rfl (by decide) rfl <| oJ 38 13 #[rr pa1, ii 13, rr pa2, ii 13, ii 20, ii 12, ii pi13] X48 d20_35 rfl rfl (by decide) rfl <| oJ 41 13 #[rr pa1, ii 13, rr pa2, ii 13, ii 20, ii 13, ii pi13] X48 d20_38 rfl rfl (by decide) rfl <| og 3 X48 d20_41 (by decide) <| oi 5 X48 d20_3 rfl rfl <| oi 7 X48 d20_5 rfl rfl <| oN 10 X48 d20_7 rfl (tlt (by decide)).2.1 <| oA 11 X48 d20_10 rfl rfl <| oI 12 X48 d20_11 rfl rfl ?_
  have f51 := f47.oth W48 (by omega)
  refine oC 13 (v := (.int pi14)) X48 f51 ⟨by decide, by decide⟩ rfl d20_12 rfl <| oS 15 (l' := #[rr pa1, ii 13, rr pa2, ii 13, ii 20, ii 13, ii pi14]) X48 d20_13 rfl rfl <| oi 17 X48 d20_15 rfl rfl <| o_sipush 20 (v := 255) X48 d20_17 rfl (by decide) <| oY 26 X48 d20_20 (by decide) (flt rg_pi14.2).2.2.2 <| oA 27 X48 d20_26 rfl rfl <| oI 28 X48 d20_27 rfl rfl <| oi 30 X48 d20_28 rfl rfl <| o_i2b 31 (v := (pi14.toInt8.toInt32)) X48 d20_30 rfl rfl ?_
  have f53 := C48.safe (own_lt (by omega)) f49
  refine sB 32 13 (pi14.toInt8.toInt32) X48 V50 (by decide) (lb rfl) (own_narB _) d20_31 rfl (by omega) (Or.inl (by simp)) f53 ?_
  rintro _ _ X52 ⟨_, _, W52⟩ C52 V52
  have := W52.size
  have V54 := V52.as [.int (pi1.toInt8.toInt32), .int (pi2.toInt8.toInt32), .int (pi3.toInt8.toInt32), .int (pi4.toInt8.toInt32), .int (pi5.toInt8.toInt32), .int (pi6.toInt8.toInt32), .int (pi7.toInt8.toInt32), .int (pi8.toInt8.toInt32), .int (pi9.toInt8.toInt32), .int (pi10.toInt8.toInt32), .int (pi11.toInt8.toInt32), .int (pi12.toInt8.toInt32), .int (pi13.toInt8.toInt32), .int (pi14.toInt8.toInt32), i0, i0, i0, i0, i0, i0] rfl
  refine oJ 35 14 #[rr pa1, ii 14, rr pa2, ii 13, ii 20, ii 13, ii pi14] X52 d20_32 rfl rfl (by decide) rfl <| oJ 38 14 #[rr pa1, ii 14, rr pa2, ii 14, ii 20, ii 13, ii pi14] X52 d20_35 rfl rfl (by decide) rfl <| oJ 41 14 #[rr pa1, ii 14, rr pa2, ii 14, ii 20, ii 14, ii pi14] X52 d20_38 rfl rfl (by decide) rfl <| og 3 X52 d20_41 (by decide) <| oi 5 X52 d20_3 rfl rfl <| oi 7 X52 d20_5 rfl rfl <| oN 10 X52 d20_7 rfl (tlt (by decide)).2.1 <| oA 11 X52 d20_10 rfl rfl <| oI 12 X52 d20_11 rfl rfl ?_
  have f55 := f51.oth W52 (by omega)
  refine oC 13 (v := (.int pi15)) X52 f55 ⟨by decide, by decide⟩ rfl d20_12 rfl <| oS 15 (l' := #[rr pa1, ii 14, rr pa2, ii 14, ii 20, ii 14, ii pi15]) X52 d20_13 rfl rfl <| oi 17 X52 d20_15 rfl rfl <| o_sipush 20 (v := 255) X52 d20_17 rfl (by decide) <| oY 26 X52 d20_20 (by decide) (flt rg_pi15.2).2.2.2 <| oA 27 X52 d20_26 rfl rfl <| oI 28 X52 d20_27 rfl rfl <| oi 30 X52 d20_28 rfl rfl <| o_i2b 31 (v := (pi15.toInt8.toInt32)) X52 d20_30 rfl rfl ?_
  have f57 := C52.safe (own_lt (by omega)) f53
  refine sB 32 14 (pi15.toInt8.toInt32) X52 V54 (by decide) (lb rfl) (own_narB _) d20_31 rfl (by omega) (Or.inl (by simp)) f57 ?_
  rintro _ _ X56 ⟨_, _, W56⟩ C56 V56
  have := W56.size
  have V58 := V56.as [.int (pi1.toInt8.toInt32), .int (pi2.toInt8.toInt32), .int (pi3.toInt8.toInt32), .int (pi4.toInt8.toInt32), .int (pi5.toInt8.toInt32), .int (pi6.toInt8.toInt32), .int (pi7.toInt8.toInt32), .int (pi8.toInt8.toInt32), .int (pi9.toInt8.toInt32), .int (pi10.toInt8.toInt32), .int (pi11.toInt8.toInt32), .int (pi12.toInt8.toInt32), .int (pi13.toInt8.toInt32), .int (pi14.toInt8.toInt32), .int (pi15.toInt8.toInt32), i0, i0, i0, i0, i0] rfl
  refine oJ 35 15 #[rr pa1, ii 15, rr pa2, ii 14, ii 20, ii 14, ii pi15] X56 d20_32 rfl rfl (by decide) rfl <| oJ 38 15 #[rr pa1, ii 15, rr pa2, ii 15, ii 20, ii 14, ii pi15] X56 d20_35 rfl rfl (by decide) rfl <| oJ 41 15 #[rr pa1, ii 15, rr pa2, ii 15, ii 20, ii 15, ii pi15] X56 d20_38 rfl rfl (by decide) rfl <| og 3 X56 d20_41 (by decide) <| oi 5 X56 d20_3 rfl rfl <| oi 7 X56 d20_5 rfl rfl <| oN 10 X56 d20_7 rfl (tlt (by decide)).2.1 <| oA 11 X56 d20_10 rfl rfl <| oI 12 X56 d20_11 rfl rfl ?_
  have f59 := f55.oth W56 (by omega)
  refine oC 13 (v := (.int pi16)) X56 f59 ⟨by decide, by decide⟩ rfl d20_12 rfl <| oS 15 (l' := #[rr pa1, ii 15, rr pa2, ii 15, ii 20, ii 15, ii pi16]) X56 d20_13 rfl rfl <| oi 17 X56 d20_15 rfl rfl <| o_sipush 20 (v := 255) X56 d20_17 rfl (by decide) <| oY 26 X56 d20_20 (by decide) (flt rg_pi16.2).2.2.2 <| oA 27 X56 d20_26 rfl rfl <| oI 28 X56 d20_27 rfl rfl <| oi 30 X56 d20_28 rfl rfl <| o_i2b 31 (v := (pi16.toInt8.toInt32)) X56 d20_30 rfl rfl ?_
  have f61 := C56.safe (own_lt (by omega)) f57
  refine sB 32 15 (pi16.toInt8.toInt32) X56 V58 (by decide) (lb rfl) (own_narB _) d20_31 rfl (by omega) (Or.inl (by simp)) f61 ?_
  rintro _ _ X60 ⟨_, _, W60⟩ C60 V60
  have := W60.size
  have V62 := V60.as [.int (pi1.toInt8.toInt32), .int (pi2.toInt8.toInt32), .int (pi3.toInt8.toInt32), .int (pi4.toInt8.toInt32), .int (pi5.toInt8.toInt32), .int (pi6.toInt8.toInt32), .int (pi7.toInt8.toInt32), .int (pi8.toInt8.toInt32), .int (pi9.toInt8.toInt32), .int (pi10.toInt8.toInt32), .int (pi11.toInt8.toInt32), .int (pi12.toInt8.toInt32), .int (pi13.toInt8.toInt32), .int (pi14.toInt8.toInt32), .int (pi15.toInt8.toInt32), .int (pi16.toInt8.toInt32), i0, i0, i0, i0] rfl
  refine oJ 35 16 #[rr pa1, ii 16, rr pa2, ii 15, ii 20, ii 15, ii pi16] X60 d20_32 rfl rfl (by decide) rfl <| oJ 38 16 #[rr pa1, ii 16, rr pa2, ii 16, ii 20, ii 15, ii pi16] X60 d20_35 rfl rfl (by decide) rfl <| oJ 41 16 #[rr pa1, ii 16, rr pa2, ii 16, ii 20, ii 16, ii pi16] X60 d20_38 rfl rfl (by decide) rfl <| og 3 X60 d20_41 (by decide) <| oi 5 X60 d20_3 rfl rfl <| oi 7 X60 d20_5 rfl rfl <| oN 10 X60 d20_7 rfl (tlt (by decide)).2.1 <| oA 11 X60 d20_10 rfl rfl <| oI 12 X60 d20_11 rfl rfl ?_
  have f63 := f59.oth W60 (by omega)
  refine oC 13 (v := (.int pi17)) X60 f63 ⟨by decide, by decide⟩ rfl d20_12 rfl <| oS 15 (l' := #[rr pa1, ii 16, rr pa2, ii 16, ii 20, ii 16, ii pi17]) X60 d20_13 rfl rfl <| oi 17 X60 d20_15 rfl rfl <| o_sipush 20 (v := 255) X60 d20_17 rfl (by decide) <| oY 26 X60 d20_20 (by decide) (flt rg_pi17.2).2.2.2 <| oA 27 X60 d20_26 rfl rfl <| oI 28 X60 d20_27 rfl rfl <| oi 30 X60 d20_28 rfl rfl <| o_i2b 31 (v := (pi17.toInt8.toInt32)) X60 d20_30 rfl rfl ?_
  have f65 := C60.safe (own_lt (by omega)) f61
  refine sB 32 16 (pi17.toInt8.toInt32) X60 V62 (by decide) (lb rfl) (own_narB _) d20_31 rfl (by omega) (Or.inl (by simp)) f65 ?_
  rintro _ _ X64 ⟨_, _, W64⟩ C64 V64
  have := W64.size
  have V66 := V64.as [.int (pi1.toInt8.toInt32), .int (pi2.toInt8.toInt32), .int (pi3.toInt8.toInt32), .int (pi4.toInt8.toInt32), .int (pi5.toInt8.toInt32), .int (pi6.toInt8.toInt32), .int (pi7.toInt8.toInt32), .int (pi8.toInt8.toInt32), .int (pi9.toInt8.toInt32), .int (pi10.toInt8.toInt32), .int (pi11.toInt8.toInt32), .int (pi12.toInt8.toInt32), .int (pi13.toInt8.toInt32), .int (pi14.toInt8.toInt32), .int (pi15.toInt8.toInt32), .int (pi16.toInt8.toInt32), .int (pi17.toInt8.toInt32), i0, i0, i0] rfl
  refine oJ 35 17 #[rr pa1, ii 17, rr pa2, ii 16, ii 20, ii 16, ii pi17] X64 d20_32 rfl rfl (by decide) rfl <| oJ 38 17 #[rr pa1, ii 17, rr pa2, ii 17, ii 20, ii 16, ii pi17] X64 d20_35 rfl rfl (by decide) rfl <| oJ 41 17 #[rr pa1, ii 17, rr pa2, ii 17, ii 20, ii 17, ii pi17] X64 d20_38 rfl rfl (by decide) rfl <| og 3 X64 d20_41 (by decide) <| oi 5 X64 d20_3 rfl rfl <| oi 7 X64 d20_5 rfl rfl <| oN 10 X64 d20_7 rfl (tlt (by decide)).2.1 <| oA 11 X64 d20_10 rfl rfl <| oI 12 X64 d20_11 rfl rfl ?_
  have f67 := f63.oth W64 (by omega)
  refine oC 13 (v := (.int pi18)) X64 f67 ⟨by decide, by decide⟩ rfl d20_12 rfl <| oS 15 (l' := #[rr pa1, ii 17, rr pa2, ii 17, ii 20, ii 17, ii pi18]) X64 d20_13 rfl rfl <| oi 17 X64 d20_15 rfl rfl <| o_sipush 20 (v := 255) X64 d20_17 rfl (by decide) <| oY 26 X64 d20_20 (by decide) (flt rg_pi18.2).2.2.2 <| oA 27 X64 d20_26 rfl rfl <| oI 28 X64 d20_27 rfl rfl <| oi 30 X64 d20_28 rfl rfl <| o_i2b 31 (v := (pi18.toInt8.toInt32)) X64 d20_30 rfl rfl ?_
  have f69 := C64.safe (own_lt (by omega)) f65
  refine sB 32 17 (pi18.toInt8.toInt32) X64 V66 (by decide) (lb rfl) (own_narB _) d20_31 rfl (by omega) (Or.inl (by simp)) f69 ?_
  rintro _ _ X68 ⟨_, _, W68⟩ C68 V68
  have := W68.size
  have V70 := V68.as [.int (pi1.toInt8.toInt32), .int (pi2.toInt8.toInt32), .int (pi3.toInt8.toInt32), .int (pi4.toInt8.toInt32), .int (pi5.toInt8.toInt32), .int (pi6.toInt8.toInt32), .int (pi7.toInt8.toInt32), .int (pi8.toInt8.toInt32), .int (pi9.toInt8.toInt32), .int (pi10.toInt8.toInt32), .int (pi11.toInt8.toInt32), .int (pi12.toInt8.toInt32), .int (pi13.toInt8.toInt32), .int (pi14.toInt8.toInt32), .int (pi15.toInt8.toInt32), .int (pi16.toInt8.toInt32), .int (pi17.toInt8.toInt32), .int (pi18.toInt8.toInt32), i0, i0] rfl
  refine oJ 35 18 #[rr pa1, ii 18, rr pa2, ii 17, ii 20, ii 17, ii pi18] X68 d20_32 rfl rfl (by decide) rfl <| oJ 38 18 #[rr pa1, ii 18, rr pa2, ii 18, ii 20, ii 17, ii pi18] X68 d20_35 rfl rfl (by decide) rfl <| oJ 41 18 #[rr pa1, ii 18, rr pa2, ii 18, ii 20, ii 18, ii pi18] X68 d20_38 rfl rfl (by decide) rfl <| og 3 X68 d20_41 (by decide) <| oi 5 X68 d20_3 rfl rfl <| oi 7 X68 d20_5 rfl rfl <| oN 10 X68 d20_7 rfl (tlt (by decide)).2.1 <| oA 11 X68 d20_10 rfl rfl <| oI 12 X68 d20_11 rfl rfl ?_
  have f71 := f67.oth W68 (by omega)
  refine oC 13 (v := (.int pi19)) X68 f71 ⟨by decide, by decide⟩ rfl d20_12 rfl <| oS 15 (l' := #[rr pa1, ii 18, rr pa2, ii 18, ii 20, ii 18, ii pi19]) X68 d20_13 rfl rfl <| oi 17 X68 d20_15 rfl rfl <| o_sipush 20 (v := 255) X68 d20_17 rfl (by decide) <| oY 26 X68 d20_20 (by decide) (flt rg_pi19.2).2.2.2 <| oA 27 X68 d20_26 rfl rfl <| oI 28 X68 d20_27 rfl rfl <| oi 30 X68 d20_28 rfl rfl <| o_i2b 31 (v := (pi19.toInt8.toInt32)) X68 d20_30 rfl rfl ?_
  have f73 := C68.safe (own_lt (by omega)) f69
  refine sB 32 18 (pi19.toInt8.toInt32) X68 V70 (by decide) (lb rfl) (own_narB _) d20_31 rfl (by omega) (Or.inl (by simp)) f73 ?_
  rintro _ _ X72 ⟨_, _, W72⟩ C72 V72
  have := W72.size
  have V74 := V72.as [.int (pi1.toInt8.toInt32), .int (pi2.toInt8.toInt32), .int (pi3.toInt8.toInt32), .int (pi4.toInt8.toInt32), .int (pi5.toInt8.toInt32), .int (pi6.toInt8.toInt32), .int (pi7.toInt8.toInt32), .int (pi8.toInt8.toInt32), .int (pi9.toInt8.toInt32), .int (pi10.toInt8.toInt32), .int (pi11.toInt8.toInt32), .int (pi12.toInt8.toInt32), .int (pi13.toInt8.toInt32), .int (pi14.toInt8.toInt32), .int (pi15.toInt8.toInt32), .int (pi16.toInt8.toInt32), .int (pi17.toInt8.toInt32), .int (pi18.toInt8.toInt32), .int (pi19.toInt8.toInt32), i0] rfl
  refine oJ 35 19 #[rr pa1, ii 19, rr pa2, ii 18, ii 20, ii 18, ii pi19] X72 d20_32 rfl rfl (by decide) rfl <| oJ 38 19 #[rr pa1, ii 19, rr pa2, ii 19, ii 20, ii 18, ii pi19] X72 d20_35 rfl rfl (by decide) rfl <| oJ 41 19 #[rr pa1, ii 19, rr pa2, ii 19, ii 20, ii 19, ii pi19] X72 d20_38 rfl rfl (by decide) rfl <| og 3 X72 d20_41 (by decide) <| oi 5 X72 d20_3 rfl rfl <| oi 7 X72 d20_5 rfl rfl <| oN 10 X72 d20_7 rfl (tlt (by decide)).2.1 <| oA 11 X72 d20_10 rfl rfl <| oI 12 X72 d20_11 rfl rfl ?_
  have f75 := f71.oth W72 (by omega)
  refine oC 13 (v := (.int pi20)) X72 f75 ⟨by decide, by decide⟩ rfl d20_12 rfl <| oS 15 (l' := #[rr pa1, ii 19, rr pa2, ii 19, ii 20, ii 19, ii pi20]) X72 d20_13 rfl rfl <| oi 17 X72 d20_15 rfl rfl <| o_sipush 20 (v := 255) X72 d20_17 rfl (by decide) <| oY 26 X72 d20_20 (by decide) (flt rg_pi20.2).2.2.2 <| oA 27 X72 d20_26 rfl rfl <| oI 28 X72 d20_27 rfl rfl <| oi 30 X72 d20_28 rfl rfl <| o_i2b 31 (v := (pi20.toInt8.toInt32)) X72 d20_30 rfl rfl ?_
  have f77 := C72.safe (own_lt (by omega)) f73
  refine sB 32 19 (pi20.toInt8.toInt32) X72 V74 (by decide) (lb rfl) (own_narB _) d20_31 rfl (by omega) (Or.inl (by simp)) f77 ?_
  rintro _ _ X76 ⟨_, _, W76⟩ _ V76
  have := W76.size
  have V78 := V76.as [.int (pi1.toInt8.toInt32), .int (pi2.toInt8.toInt32), .int (pi3.toInt8.toInt32), .int (pi4.toInt8.toInt32), .int (pi5.toInt8.toInt32), .int (pi6.toInt8.toInt32), .int (pi7.toInt8.toInt32), .int (pi8.toInt8.toInt32), .int (pi9.toInt8.toInt32), .int (pi10.toInt8.toInt32), .int (pi11.toInt8.toInt32), .int (pi12.toInt8.toInt32), .int (pi13.toInt8.toInt32), .int (pi14.toInt8.toInt32), .int (pi15.toInt8.toInt32), .int (pi16.toInt8.toInt32), .int (pi17.toInt8.toInt32), .int (pi18.toInt8.toInt32), .int (pi19.toInt8.toInt32), .int (pi20.toInt8.toInt32)] rfl
  refine oJ 35 20 #[rr pa1, ii 20, rr pa2, ii 19, ii 20, ii 19, ii pi20] X76 d20_32 rfl rfl (by decide) rfl <| oJ 38 20 #[rr pa1, ii 20, rr pa2, ii 20, ii 20, ii 19, ii pi20] X76 d20_35 rfl rfl (by decide) rfl <| oJ 41 20 #[rr pa1, ii 20, rr pa2, ii 20, ii 20, ii 20, ii pi20] X76 d20_38 rfl rfl (by decide) rfl <| og 3 X76 d20_41 (by decide) <| oi 5 X76 d20_3 rfl rfl <| oi 7 X76 d20_5 rfl rfl <| oY 44 X76 d20_7 (by decide) (flt (by decide)).2.1 <| oi 46 X76 d20_44 rfl rfl ?_
  have f79 := (((((((((((((((((((F2.wr W1).wr W4).wr W8).wr W12).wr W16).wr W20).wr W24).wr W28).wr W32).wr W36).wr W40).wr W44).wr W48).wr W52).wr W56).wr W60).wr W64).wr W68).wr W72).wr W76
  exact o_iret X76 d20_46 rfl (by decide) (by decide) (fun _ CC => ⟨rfl, V78, f79⟩)
def Q35 (Z : State) (b1 b2 b3 b4 b5 b6 b7 b8 b9 b10 b11 b12 b13 b14 b15 b16 b17 b18 b19 b20 : Int32) (h0 : Heap) (v : Option Value) (h : Heap) (vm : Vm) : Prop := ∃ (xa1 : Addr) (xk1 : ClassId), v = some (.ref xa1) ∧ av0 Z h xa1 xk1 20 [.int (b1.toInt8.toInt32), .int (b2.toInt8.toInt32), .int (b3.toInt8.toInt32), .int (b4.toInt8.toInt32), .int (b5.toInt8.toInt32), .int (b6.toInt8.toInt32), .int (b7.toInt8.toInt32), .int (b8.toInt8.toInt32), .int (b9.toInt8.toInt32), .int (b10.toInt8.toInt32), .int (b11.toInt8.toInt32), .int (b12.toInt8.toInt32), .int (b13.toInt8.toInt32), .int (b14.toInt8.toInt32), .int (b15.toInt8.toInt32), .int (b16.toInt8.toInt32), .int (b17.toInt8.toInt32), .int (b18.toInt8.toInt32), .int (b19.toInt8.toInt32), .int (b20.toInt8.toInt32)] ∧ ex3 Z h xa1 ∧ Safe Z EL0 vm h xa1 ∧ h0.size ≤ xa1 ∧ h.size > xa1
theorem rm_au79 (F0 : av1 Z h0 pa1 pk1 20 [.int pi1, .int pi2, .int pi3, .int pi4, .int pi5, .int pi6, .int pi7, .int pi8, .int pi9, .int pi10, .int pi11, .int pi12, .int pi13, .int pi14, .int pi15, .int pi16, .int pi17, .int pi18, .int pi19, .int pi20]) (rg_pi1 : ¬ pi1 < 0 ∧ ¬ (255 : Int32) < pi1) (rg_pi2 : ¬ pi2 < 0 ∧ ¬ (255 : Int32) < pi2) (rg_pi3 : ¬ pi3 < 0 ∧ ¬ (255 : Int32) < pi3) (rg_pi4 : ¬ pi4 < 0 ∧ ¬ (255 : Int32) < pi4) (rg_pi5 : ¬ pi5 < 0 ∧ ¬ (255 : Int32) < pi5) (rg_pi6 : ¬ pi6 < 0 ∧ ¬ (255 : Int32) < pi6) (rg_pi7 : ¬ pi7 < 0 ∧ ¬ (255 : Int32) < pi7) (rg_pi8 : ¬ pi8 < 0 ∧ ¬ (255 : Int32) < pi8) (rg_pi9 : ¬ pi9 < 0 ∧ ¬ (255 : Int32) < pi9) (rg_pi10 : ¬ pi10 < 0 ∧ ¬ (255 : Int32) < pi10) (rg_pi11 : ¬ pi11 < 0 ∧ ¬ (255 : Int32) < pi11) (rg_pi12 : ¬ pi12 < 0 ∧ ¬ (255 : Int32) < pi12) (rg_pi13 : ¬ pi13 < 0 ∧ ¬ (255 : Int32) < pi13) (rg_pi14 : ¬ pi14 < 0 ∧ ¬ (255 : Int32) < pi14) (rg_pi15 : ¬ pi15 < 0 ∧ ¬ (255 : Int32) < pi15) (rg_pi16 : ¬ pi16 < 0 ∧ ¬ (255 : Int32) < pi16) (rg_pi17 : ¬ pi17 < 0 ∧ ¬ (255 : Int32) < pi17) (rg_pi18 : ¬ pi18 < 0 ∧ ¬ (255 : Int32) < pi18) (rg_pi19 : ¬ pi19 < 0 ∧ ¬ (255 : Int32) < pi19) (rg_pi20 : ¬ pi20 < 0 ∧ ¬ (255 : Int32) < pi20) : M19 G 1 1 20 18 #[.ref pa1, i0, .int 20] h0 n0 [] [] (Q35 Z pi1 pi2 pi3 pi4 pi5 pi6 pi7 pi8 pi9 pi10 pi11 pi12 pi13 pi14 pi15 pi16 pi17 pi18 pi19 pi20 h0) := by
  refine mi B19 ef13 (hEW G) fun s X0 hsf0 n0le => ?_
  have l1 := F0.l
  refine oI 1 X0 d19_0 rfl rfl <| nP (aty := .byte) 3 20 X0 (w3 G) d19_1 rfl (by decide) had_byte ?_
  intro _ h1 b1 k1 X1 _ l1 E1 V1 A1 _ S1
  have V2 : av0 Z h1 b1 k1 20 [i0, i0, i0, i0, i0, i0, i0, i0, i0, i0, i0, i0, i0, i0, i0, i0, i0, i0, i0, i0] := V1.pad (pad_rep [] (.int (0 : Int32)) 20)
  refine oV 4 (l' := #[rr pa1, ii 0, ii 20, rr b1, uu, uu]) X1 d19_3 rfl rfl rfl <| oA 5 X1 d19_4 rfl rfl <| oI 6 X1 d19_5 rfl rfl <| oA 7 X1 d19_6 rfl rfl <| oc 8 (v := 0) X1 d19_7 rfl (by decide) <| oI 9 X1 d19_8 rfl rfl ?_
  have f3 := F0.ext E1
  refine mS 12 0 X1 (rm_au78 G f3 V2 A1 rg_pi1 rg_pi2 rg_pi3 rg_pi4 rg_pi5 rg_pi6 rg_pi7 rg_pi8 rg_pi9 rg_pi10 rg_pi11 rg_pi12 rg_pi13 rg_pi14 rg_pi15 rg_pi16 rg_pi17 rg_pi18 rg_pi19 rg_pi20 (by omega)) (u17 G) (sS (by omega) S1 all0) d19_9 rfl rfl rfl lr (by decide) (aR (by omega) all0) ?_
  rintro _ _ _ _ X4 ⟨rfl, q5, q6⟩ _ _ C4
  refine oS 14 (l' := #[rr pa1, ii 0, ii 20, rr b1, ii 20, uu]) X4 d19_12 rfl rfl <| oi 16 X4 d19_14 rfl rfl <| oI 17 X4 d19_16 rfl rfl <| oY 57 X4 d19_17 (by decide) (teq (by decide)).1 <| oA 58 X4 d19_57 rfl rfl ?_
  have f7 := C4.safe (own_lt (by omega)) S1
  exact oR X4 d19_58 rfl rfl rfl (by decide) (by decide) (fun _ CC => ⟨b1, k1, rfl, q5, q6, (CC.safe (own_lt (by omega)) f7), by omega⟩)
theorem rm_au80 (F0 : av0 Z h0 pa1 pk1 20 ps_pa1) : M21 G 0 0 0 0 #[.ref pa1, .int 20] h0 n0 [] [] (Q4 Z  h0) := by
  refine mi B21 ef0 (hEW G) fun s X0 hsf0 n0le => ?_
  have := F0.l
  refine oI 1 X0 d21_0 rfl rfl <| oA 2 X0 d21_1 rfl rfl <| oL 3 X0 F0 d21_2 rfl <| o_isub 4 (v := 0) X0 d21_3 rfl (by decide) <| ob 6 (v := 31) X0 d21_4 rfl (by decide) <| o_iushr 7 (v := 0) X0 d21_6 rfl (by decide) <| o_i2b 8 (v := 0) X0 d21_7 rfl (by decide) ?_
  exact o_nret (y := (0 : Int32)) (t := .byte) X0 d21_8 rfl (by decide) (by simp) (by decide) (by decide) (fun _ CC => rfl)
def Q36 (Z : State) (b1 : Addr) (b2 b3 b4 b5 b6 b7 b8 b9 b10 b11 b12 b13 b14 b15 b16 b17 b18 b19 b20 b21 : Int32) (h0 : Heap) (v : Option Value) (h : Heap) (vm : Vm) : Prop := ∃ (xa1 : Addr) (xk1 : ClassId), v = none ∧ ex0 Z h b1 ∧ fd0 Z h b1 (.int 0) ∧ fd1 Z h b1 (.ref xa1) ∧ av0 Z h xa1 xk1 20 [.int (b2.toInt8.toInt32), .int (b3.toInt8.toInt32), .int (b4.toInt8.toInt32), .int (b5.toInt8.toInt32), .int (b6.toInt8.toInt32), .int (b7.toInt8.toInt32), .int (b8.toInt8.toInt32), .int (b9.toInt8.toInt32), .int (b10.toInt8.toInt32), .int (b11.toInt8.toInt32), .int (b12.toInt8.toInt32), .int (b13.toInt8.toInt32), .int (b14.toInt8.toInt32), .int (b15.toInt8.toInt32), .int (b16.toInt8.toInt32), .int (b17.toInt8.toInt32), .int (b18.toInt8.toInt32), .int (b19.toInt8.toInt32), .int (b20.toInt8.toInt32), .int (b21.toInt8.toInt32)] ∧ ex3 Z h xa1 ∧ Safe Z EL0 vm h xa1 ∧ h0.size ≤ xa1 ∧ h.size > xa1
theorem rm_au81 (F0 : ex0 Z h0 pa1) (F1 : fd0 Z h0 pa1 (.int pi1)) (F2 : fd1 Z h0 pa1 .null) (F3 : av1 Z h0 pa2 pk1 20 [.int pi2, .int pi3, .int pi4, .int pi5, .int pi6, .int pi7, .int pi8, .int pi9, .int pi10, .int pi11, .int pi12, .int pi13, .int pi14, .int pi15, .int pi16, .int pi17, .int pi18, .int pi19, .int pi20, .int pi21]) (rg_pi2 : ¬ pi2 < 0 ∧ ¬ (255 : Int32) < pi2) (rg_pi3 : ¬ pi3 < 0 ∧ ¬ (255 : Int32) < pi3) (rg_pi4 : ¬ pi4 < 0 ∧ ¬ (255 : Int32) < pi4) (rg_pi5 : ¬ pi5 < 0 ∧ ¬ (255 : Int32) < pi5) (rg_pi6 : ¬ pi6 < 0 ∧ ¬ (255 : Int32) < pi6) (rg_pi7 : ¬ pi7 < 0 ∧ ¬ (255 : Int32) < pi7) (rg_pi8 : ¬ pi8 < 0 ∧ ¬ (255 : Int32) < pi8) (rg_pi9 : ¬ pi9 < 0 ∧ ¬ (255 : Int32) < pi9) (rg_pi10 : ¬ pi10 < 0 ∧ ¬ (255 : Int32) < pi10) (rg_pi11 : ¬ pi11 < 0 ∧ ¬ (255 : Int32) < pi11) (rg_pi12 : ¬ pi12 < 0 ∧ ¬ (255 : Int32) < pi12) (rg_pi13 : ¬ pi13 < 0 ∧ ¬ (255 : Int32) < pi13) (rg_pi14 : ¬ pi14 < 0 ∧ ¬ (255 : Int32) < pi14) (rg_pi15 : ¬ pi15 < 0 ∧ ¬ (255 : Int32) < pi15) (rg_pi16 : ¬ pi16 < 0 ∧ ¬ (255 : Int32) < pi16) (rg_pi17 : ¬ pi17 < 0 ∧ ¬ (255 : Int32) < pi17) (rg_pi18 : ¬ pi18 < 0 ∧ ¬ (255 : Int32) < pi18) (rg_pi19 : ¬ pi19 < 0 ∧ ¬ (255 : Int32) < pi19) (rg_pi20 : ¬ pi20 < 0 ∧ ¬ (255 : Int32) < pi20) (rg_pi21 : ¬ pi21 < 0 ∧ ¬ (255 : Int32) < pi21) (ne : NE pa1 pa2 ∧ n0 ≤ pa1) : M18 G 2 1 20 35 #[.ref pa1, .ref pa2, i0, .int 20, .null] h0 n0 [pa1] [pa1] (Q36 Z pa1 pi2 pi3 pi4 pi5 pi6 pi7 pi8 pi9 pi10 pi11 pi12 pi13 pi14 pi15 pi16 pi17 pi18 pi19 pi20 pi21 h0) := by
  refine mi B18 ef12 (hEW G) fun s X0 hsf0 n0le => ?_
  have := F0.l
  have := F3.l
  have sf_pa1 := hsf0 pa1 (by simp)
  refine oA 1 X0 d18_0 rfl rfl <| o_initO 4 (W := 0) X0 (w60 G) (w61 G) (w62 G) rfl (by decide) (Nat.le_of_eq rfl) (by decide) d18_1 rfl ?_
  intro _ X2
  refine oI 5 X2 d18_4 rfl rfl <| oy 27 X2 d18_5 (by decide) ((if0 _ _).trans (feq (by decide)).2) <| oG 30 X2 (w25 G) Via.refl ((sg15 G).ext X2.old.2) d18_27 rfl ?_
  intro _ X4
  refine on 33 X4 d18_30 rfl ((if0 _ _).trans (feq (hzc G)).1) <| oA 34 X4 d18_33 rfl rfl <| oI 35 X4 d18_34 rfl rfl <| oI 36 X4 d18_35 rfl rfl <| mS 39 0 X4 (rm_au79 G F3 rg_pi2 rg_pi3 rg_pi4 rg_pi5 rg_pi6 rg_pi7 rg_pi8 rg_pi9 rg_pi10 rg_pi11 rg_pi12 rg_pi13 rg_pi14 rg_pi15 rg_pi16 rg_pi17 rg_pi18 rg_pi19 rg_pi20 rg_pi21) (u18 G) all0 d18_36 rfl rfl rfl lr (by decide) all0 ?_
  rintro _ _ _ _ X5 ⟨xa1_6, xk1_7, rfl, q8, q9, q10, _⟩ K5 _ C5
  refine oU 41 (l' := #[rr pa1, rr pa2, ii 0, ii 20, .val .null, rr xa1_6]) X5 d18_39 rfl rfl rfl <| oA 42 X5 d18_41 rfl rfl <| oa 44 X5 d18_42 rfl rfl <| oI 45 X5 d18_44 rfl rfl <| mS 48 1 X5 (rm_au80 G q8) (u19 G) all0 d18_45 rfl rfl rfl lr (by decide) all0 ?_
  rintro _ _ _ _ X12 rfl K12 _ C12
  have f13 := (F1.k0 K5).k0 K12
  have f14 := (F0.keep K5).keep K12
  have f16 := C12.safe (own_lt (by omega)) (C5.safe (own_lt (by omega)) sf_pa1)
  refine oP 51 (v' := (.int 0)) X12 (w26 G) Via.refl f13 f14 (Or.inr ⟨(w5 G), rfl, rfl⟩) (w2 G) fd_1 rfl rfl d18_48 rfl (by omega) (Or.inl (by simp)) f16 ?_
  intro _ _ X15 W15 C15
  have := W15.size
  have f17 := f13.same W15
  refine oA 52 X15 d18_51 rfl rfl <| oa 54 X15 d18_52 rfl rfl ?_
  have f18 := ((F2.k0 K5).k0 K12).other W15 (Or.inr (sn0 G))
  have f19 := f14.wr W15
  have f21 := C15.safe (own_lt (by omega)) f16
  refine oP 57 (v' := (.ref xa1_6)) X15 (w19 G) Via.refl f18 f19 (Or.inr ⟨(w4 G), rfl, rfl⟩) (w2 G) fd_0 rfl rfl d18_54 rfl (by omega) (Or.inl (by simp)) f21 ?_
  intro _ _ X20 W20 C20
  have := W20.size
  have f22 := f18.same W20
  have f23 := f19.wr W20
  have f24 := f17.other W20 (Or.inr (sn1 G))
  have f25 := ((q8.k0 K12).oth W15 (by omega)).oth W20 (by omega)
  have f26 := ((q9.keep K12).wr W15).wr W20
  have f27 := C20.safe (own_lt (by omega)) (C15.safe (own_lt (by omega)) (C12.safe (own_lt (by omega)) q10))
  exact oz X20 d18_57 rfl (by decide) (by decide) (fun _ CC => ⟨xa1_6, xk1_7, rfl, f23, f24, f22, f25, f26, (CC.safe (own_lt (by omega)) f27), by omega⟩)
theorem rm_au82 (F0 : ex0 Z h0 pa1) (F1 : fd0 Z h0 pa1 (.int pi100)) (F2 : fd1 Z h0 pa1 .null) (F3 : av1 Z h0 pa2 pk1 20 [.int pi1, .int pi2, .int pi3, .int pi4, .int pi5, .int pi6, .int pi7, .int pi8, .int pi9, .int pi10, .int pi11, .int pi12, .int pi13, .int pi14, .int pi15, .int pi16, .int pi17, .int pi18, .int pi19, .int pi20]) (rg_pi1 : ¬ pi1 < 0 ∧ ¬ (255 : Int32) < pi1) (rg_pi2 : ¬ pi2 < 0 ∧ ¬ (255 : Int32) < pi2) (rg_pi3 : ¬ pi3 < 0 ∧ ¬ (255 : Int32) < pi3) (rg_pi4 : ¬ pi4 < 0 ∧ ¬ (255 : Int32) < pi4) (rg_pi5 : ¬ pi5 < 0 ∧ ¬ (255 : Int32) < pi5) (rg_pi6 : ¬ pi6 < 0 ∧ ¬ (255 : Int32) < pi6) (rg_pi7 : ¬ pi7 < 0 ∧ ¬ (255 : Int32) < pi7) (rg_pi8 : ¬ pi8 < 0 ∧ ¬ (255 : Int32) < pi8) (rg_pi9 : ¬ pi9 < 0 ∧ ¬ (255 : Int32) < pi9) (rg_pi10 : ¬ pi10 < 0 ∧ ¬ (255 : Int32) < pi10) (rg_pi11 : ¬ pi11 < 0 ∧ ¬ (255 : Int32) < pi11) (rg_pi12 : ¬ pi12 < 0 ∧ ¬ (255 : Int32) < pi12) (rg_pi13 : ¬ pi13 < 0 ∧ ¬ (255 : Int32) < pi13) (rg_pi14 : ¬ pi14 < 0 ∧ ¬ (255 : Int32) < pi14) (rg_pi15 : ¬ pi15 < 0 ∧ ¬ (255 : Int32) < pi15) (rg_pi16 : ¬ pi16 < 0 ∧ ¬ (255 : Int32) < pi16) (rg_pi17 : ¬ pi17 < 0 ∧ ¬ (255 : Int32) < pi17) (rg_pi18 : ¬ pi18 < 0 ∧ ¬ (255 : Int32) < pi18) (rg_pi19 : ¬ pi19 < 0 ∧ ¬ (255 : Int32) < pi19) (rg_pi20 : ¬ pi20 < 0 ∧ ¬ (255 : Int32) < pi20) (ne : NE pa1 pa2 ∧ n0 ≤ pa1) : M17 G 3 1 20 52 #[.ref pa1, .ref pa2] h0 n0 [pa1] [pa1] (Q36 Z pa1 pi1 pi2 pi3 pi4 pi5 pi6 pi7 pi8 pi9 pi10 pi11 pi12 pi13 pi14 pi15 pi16 pi17 pi18 pi19 pi20 h0) := by
  refine mi B17 ef11 (hEW G) fun s X0 hsf0 n0le => ?_
  have := F0.l
  have := F3.l
  have sf_pa1 := hsf0 pa1 (by simp)
  refine oA 1 X0 d17_0 rfl rfl <| oA 2 X0 d17_1 rfl rfl <| oc 3 (v := 0) X0 d17_2 rfl (by decide) <| oA 4 X0 d17_3 rfl rfl <| oL 5 X0 F3 d17_4 rfl <| o_aconstNull 6 X0 d17_5 rfl <| mP 9 0 X0 (rm_au81 G F0 F1 F2 F3 rg_pi1 rg_pi2 rg_pi3 rg_pi4 rg_pi5 rg_pi6 rg_pi7 rg_pi8 rg_pi9 rg_pi10 rg_pi11 rg_pi12 rg_pi13 rg_pi14 rg_pi15 rg_pi16 rg_pi17 rg_pi18 rg_pi19 rg_pi20 (by omega)) (u20 G) (sS (by omega) sf_pa1 all0) d17_6 rfl rfl rfl lr (by decide) (aI (by omega) (by simp) all0) ?_
  rintro _ _ _ _ X1 ⟨xa1_2, xk1_3, rfl, q4, q5, q6, q7, q8, q9, _⟩ _ _ _
  exact oz X1 d17_9 rfl (by decide) (by decide) (fun _ CC => ⟨xa1_2, xk1_3, rfl, q4, q5, q6, q7, q8, (CC.safe (own_lt (by omega)) q9), by omega⟩)
def Q37 (Z : State) (b1 b2 b3 b4 b5 b6 b7 b8 b9 b10 b11 b12 b13 b14 b15 b16 b17 b18 b19 b20 : Int32) (h0 : Heap) (v : Option Value) (h : Heap) (vm : Vm) : Prop := ∃ (xa1 : Addr) (xa2 : Addr) (xk1 : ClassId), v = some (.ref xa1) ∧ ex0 Z h xa1 ∧ fd0 Z h xa1 (.int 0) ∧ fd1 Z h xa1 (.ref xa2) ∧ Safe Z EL0 vm h xa1 ∧ av0 Z h xa2 xk1 20 [.int (b1.toInt8.toInt32), .int (b2.toInt8.toInt32), .int (b3.toInt8.toInt32), .int (b4.toInt8.toInt32), .int (b5.toInt8.toInt32), .int (b6.toInt8.toInt32), .int (b7.toInt8.toInt32), .int (b8.toInt8.toInt32), .int (b9.toInt8.toInt32), .int (b10.toInt8.toInt32), .int (b11.toInt8.toInt32), .int (b12.toInt8.toInt32), .int (b13.toInt8.toInt32), .int (b14.toInt8.toInt32), .int (b15.toInt8.toInt32), .int (b16.toInt8.toInt32), .int (b17.toInt8.toInt32), .int (b18.toInt8.toInt32), .int (b19.toInt8.toInt32), .int (b20.toInt8.toInt32)] ∧ ex3 Z h xa2 ∧ Safe Z EL0 vm h xa2 ∧ h0.size ≤ xa1 ∧ h.size > xa1 ∧ h0.size ≤ xa2 ∧ h.size > xa2 ∧ NE xa1 xa2
theorem rm_au83 (F0 : av1 Z h0 pa1 pk1 22 [.int pi1, .int pi2, .int pi3, .int pi4, .int pi5, .int pi6, .int pi7, .int pi8, .int pi9, .int pi10, .int pi11, .int pi12, .int pi13, .int pi14, .int pi15, .int pi16, .int pi17, .int pi18, .int pi19, .int pi20, .int pi21, .int pi22]) (rg_pi1 : ¬ pi1 < 0 ∧ ¬ (255 : Int32) < pi1) (rg_pi2 : ¬ pi2 < 0 ∧ ¬ (255 : Int32) < pi2) (rg_pi3 : ¬ pi3 < 0 ∧ ¬ (255 : Int32) < pi3) (rg_pi4 : ¬ pi4 < 0 ∧ ¬ (255 : Int32) < pi4) (rg_pi5 : ¬ pi5 < 0 ∧ ¬ (255 : Int32) < pi5) (rg_pi6 : ¬ pi6 < 0 ∧ ¬ (255 : Int32) < pi6) (rg_pi7 : ¬ pi7 < 0 ∧ ¬ (255 : Int32) < pi7) (rg_pi8 : ¬ pi8 < 0 ∧ ¬ (255 : Int32) < pi8) (rg_pi9 : ¬ pi9 < 0 ∧ ¬ (255 : Int32) < pi9) (rg_pi10 : ¬ pi10 < 0 ∧ ¬ (255 : Int32) < pi10) (rg_pi11 : ¬ pi11 < 0 ∧ ¬ (255 : Int32) < pi11) (rg_pi12 : ¬ pi12 < 0 ∧ ¬ (255 : Int32) < pi12) (rg_pi13 : ¬ pi13 < 0 ∧ ¬ (255 : Int32) < pi13) (rg_pi14 : ¬ pi14 < 0 ∧ ¬ (255 : Int32) < pi14) (rg_pi15 : ¬ pi15 < 0 ∧ ¬ (255 : Int32) < pi15) (rg_pi16 : ¬ pi16 < 0 ∧ ¬ (255 : Int32) < pi16) (rg_pi17 : ¬ pi17 < 0 ∧ ¬ (255 : Int32) < pi17) (rg_pi18 : ¬ pi18 < 0 ∧ ¬ (255 : Int32) < pi18) (rg_pi19 : ¬ pi19 < 0 ∧ ¬ (255 : Int32) < pi19) (rg_pi20 : ¬ pi20 < 0 ∧ ¬ (255 : Int32) < pi20) (rg_pi21 : ¬ pi21 < 0 ∧ ¬ (255 : Int32) < pi21) (rg_pi22 : ¬ pi22 < 0 ∧ ¬ (255 : Int32) < pi22) (pc_0 : ¬ pi100 = (0 : Int32)) (pc_1 : ¬ pi100 = (1 : Int32)) (pc_2 : ¬ pi100 = (2 : Int32)) (pc_3 : ¬ pi100 = (3 : Int32)) (pc_4 : ¬ pi100 = (4 : Int32)) (pc_5 : pi100 = (5 : Int32)) : M10 G 4 3 44 66 #[.ref pa1, .int pi100] h0 n0 [] [] (Q37 Z pi1 pi2 pi3 pi4 pi5 pi6 pi7 pi8 pi9 pi10 pi11 pi12 pi13 pi14 pi15 pi16 pi17 pi18 pi19 pi20 h0) := by
  refine mi B10 ef0 (hEW G) fun s X0 hsf0 n0le => ?_
  have l1 := F0.l
  refine oI 1 X0 d10_0 rfl rfl <| oy 7 X0 d10_1 (by decide) ((if0 _ _).trans (feq pc_0).2) <| oI 8 X0 d10_7 rfl rfl <| oc 9 (v := 1) X0 d10_8 rfl (by decide) <| oY 41 X0 d10_9 (by decide) (feq pc_1).2 <| oI 42 X0 d10_41 rfl rfl <| oc 43 (v := 2) X0 d10_42 rfl (by decide) <| oY 81 X0 d10_43 (by decide) (feq pc_2).2 <| oI 82 X0 d10_81 rfl rfl <| oc 83 (v := 3) X0 d10_82 rfl (by decide) <| oY 127 X0 d10_83 (by decide) (feq pc_3).2 <| oI 128 X0 d10_127 rfl rfl ?_
  refine oc 129 (v := 4) X0 d10_128 rfl (by decide) <| oY 180 X0 d10_129 (by decide) (feq pc_4).2 <| oI 181 X0 d10_180 rfl rfl <| oc 182 (v := 5) X0 d10_181 rfl (by decide) <| oN 185 X0 d10_182 rfl (teq pc_5).2 <| o_new 188 X0 (w52 G) (w2 G) (w1 G) d10_185 rfl (by decide) (by decide) ?_
  intro _ h1 b1 X1 _ l1 E1 A1 D1 _ _ S1
  have f2 : fd1 Z h1 b1 .null := D1 (Or.inr (w4 G)) fd_0
  have f3 : fd0 Z h1 b1 (.int 0) := D1 (Or.inr (w5 G)) fd_1
  refine oD 189 X1 d10_188 rfl rfl <| ob 191 (v := 20) X1 d10_189 rfl (by decide) <| nP (aty := .char) 193 20 X1 (w9 G) d10_191 rfl (by decide) had_char ?_
  intro _ h4 b4 k4 X4 _ _ E4 V4 A4 C4 _
  have V5 : av1 Z h4 b4 k4 20 [i0, i0, i0, i0, i0, i0, i0, i0, i0, i0, i0, i0, i0, i0, i0, i0, i0, i0, i0, i0] := V4.pad (pad_rep [] (.int (0 : Int32)) 20)
  refine oD 194 X4 d10_193 rfl rfl <| oc 195 (v := 0) X4 d10_194 rfl (by decide) <| oA 196 X4 d10_195 rfl rfl <| oc 197 (v := 0) X4 d10_196 rfl (by decide) ?_
  have f6 := (F0.ext E1).ext E4
  refine oC 198 (v := (.int pi1)) X4 f6 ⟨by decide, by decide⟩ rfl d10_197 rfl <| sC 199 0 pi1 X4 V5 (by decide) (lb rfl) (own_narC rg_pi1) d10_198 rfl (by omega) (Or.inr (by omega)) (sx X4 A4 nc0) ?_
  rintro _ _ X7 ⟨_, _, W7⟩ C7 V7
  have := W7.size
  have V8 := V7.as [.int pi1, i0, i0, i0, i0, i0, i0, i0, i0, i0, i0, i0, i0, i0, i0, i0, i0, i0, i0, i0] rfl
  refine oD 200 X7 d10_199 rfl rfl <| oc 201 (v := 1) X7 d10_200 rfl (by decide) <| oA 202 X7 d10_201 rfl rfl <| oc 203 (v := 1) X7 d10_202 rfl (by decide) ?_
  have f9 := f6.oth W7 (by omega)
  refine oC 204 (v := (.int pi2)) X7 f9 ⟨by decide, by decide⟩ rfl d10_203 rfl ?_
  have f11 := A4.wr W7
  refine sC 205 1 pi2 X7 V8 (by decide) (lb rfl) (own_narC rg_pi2) d10_204 rfl (by omega) (Or.inr (by omega)) (sx X7 f11 nc0) ?_
  rintro _ _ X10 ⟨_, _, W10⟩ C10 V10
  have := W10.size
  have V12 := V10.as [.int pi1, .int pi2, i0, i0, i0, i0, i0, i0, i0, i0, i0, i0, i0, i0, i0, i0, i0, i0, i0, i0] rfl
  refine oD 206 X10 d10_205 rfl rfl <| oc 207 (v := 2) X10 d10_206 rfl (by decide) <| oA 208 X10 d10_207 rfl rfl <| oc 209 (v := 2) X10 d10_208 rfl (by decide) ?_
  have f13 := f9.oth W10 (by omega)
  refine oC 210 (v := (.int pi3)) X10 f13 ⟨by decide, by decide⟩ rfl d10_209 rfl ?_
  have f15 := f11.wr W10
  refine sC 211 2 pi3 X10 V12 (by decide) (lb rfl) (own_narC rg_pi3) d10_210 rfl (by omega) (Or.inr (by omega)) (sx X10 f15 nc0) ?_
  rintro _ _ X14 ⟨_, _, W14⟩ C14 V14
  have := W14.size
  have V16 := V14.as [.int pi1, .int pi2, .int pi3, i0, i0, i0, i0, i0, i0, i0, i0, i0, i0, i0, i0, i0, i0, i0, i0, i0] rfl
  refine oD 212 X14 d10_211 rfl rfl <| oc 213 (v := 3) X14 d10_212 rfl (by decide) <| oA 214 X14 d10_213 rfl rfl <| oc 215 (v := 3) X14 d10_214 rfl (by decide) ?_
  have f17 := f13.oth W14 (by omega)
  refine oC 216 (v := (.int pi4)) X14 f17 ⟨by decide, by decide⟩ rfl d10_215 rfl ?_
  have f19 := f15.wr W14
  refine sC 217 3 pi4 X14 V16 (by decide) (lb rfl) (own_narC rg_pi4) d10_216 rfl (by omega) (Or.inr (by omega)) (sx X14 f19 nc0) ?_
  rintro _ _ X18 ⟨_, _, W18⟩ C18 V18
  have := W18.size
  have V20 := V18.as [.int pi1, .int pi2, .int pi3, .int pi4, i0, i0, i0, i0, i0, i0, i0, i0, i0, i0, i0, i0, i0, i0, i0, i0] rfl
  refine oD 218 X18 d10_217 rfl rfl <| oc 219 (v := 4) X18 d10_218 rfl (by decide) <| oA 220 X18 d10_219 rfl rfl <| oc 221 (v := 4) X18 d10_220 rfl (by decide) ?_
  have f21 := f17.oth W18 (by omega)
  refine oC 222 (v := (.int pi5)) X18 f21 ⟨by decide, by decide⟩ rfl d10_221 rfl ?_
  have f23 := f19.wr W18
  refine sC 223 4 pi5 X18 V20 (by decide) (lb rfl) (own_narC rg_pi5) d10_222 rfl (by omega) (Or.inr (by omega)) (sx X18 f23 nc0) ?_
  rintro _ _ X22 ⟨_, _, W22⟩ C22 V22
  have := W22.size
  have V24 := V22.as [.int pi1, .int pi2, .int pi3, .int pi4, .int pi5, i0, i0, i0, i0, i0, i0, i0, i0, i0, i0, i0, i0, i0, i0, i0] rfl
  refine oD 224 X22 d10_223 rfl rfl <| oc 225 (v := 5) X22 d10_224 rfl (by decide) <| oA 226 X22 d10_225 rfl rfl <| oc 227 (v := 5) X22 d10_226 rfl (by decide) ?_
  have f25 := f21.oth W22 (by omega)
  refine oC 228 (v := (.int pi6)) X22 f25 ⟨by decide, by decide⟩ rfl d10_227 rfl ?_
  have f27 := f23.wr W22
  refine sC 229 5 pi6 X22 V24 (by decide) (lb rfl) (own_narC rg_pi6) d10_228 rfl (by omega) (Or.inr (by omega)) (sx X22 f27 nc0) ?_
  rintro _ _ X26 ⟨_, _, W26⟩ C26 V26
  have := W26.size
  have V28 := V26.as [.int pi1, .int pi2, .int pi3, .int pi4, .int pi5, .int pi6, i0, i0, i0, i0, i0, i0, i0, i0, i0, i0, i0, i0, i0, i0] rfl
  refine oD 230 X26 d10_229 rfl rfl <| ob 232 (v := 6) X26 d10_230 rfl (by decide) <| oA 233 X26 d10_232 rfl rfl <| ob 235 (v := 6) X26 d10_233 rfl (by decide) ?_
  have f29 := f25.oth W26 (by omega)
  refine oC 236 (v := (.int pi7)) X26 f29 ⟨by decide, by decide⟩ rfl d10_235 rfl ?_
  have f31 := f27.wr W26
  refine sC 237 6 pi7 X26 V28 (by decide) (lb rfl) (own_narC rg_pi7) d10_236 rfl (by omega) (Or.inr (by omega)) (sx X26 f31 nc0) ?_
  rintro _ _ X30 ⟨_, _, W30⟩ C30 V30
  have := W30.size
  have V32 := V30.as [.int pi1, .int pi2, .int pi3, .int pi4, .int pi5, .int pi6, .int pi7, i0, i0, i0, i0, i0, i0, i0, i0, i0, i0, i0, i0, i0] rfl
  refine oD 238 X30 d10_237 rfl rfl <| ob 240 (v := 7) X30 d10_238 rfl (by decide) <| oA 241 X30 d10_240 rfl rfl <| ob 243 (v := 7) X30 d10_241 rfl (by decide) ?_
  have f33 := f29.oth W30 (by omega)
  refine oC 244 (v := (.int pi8)) X30 f33 ⟨by decide, by decide⟩ rfl d10_243 rfl ?_
  have f35 := f31.wr W30
  refine sC 245 7 pi8 X30 V32 (by decide) (lb rfl) (own_narC rg_pi8) d10_244 rfl (by omega) (Or.inr (by omega)) (sx X30 f35 nc0) ?_
  rintro _ _ X34 ⟨_, _, W34⟩ C34 V34
  have := W34.size
  have V36 := V34.as [.int pi1, .int pi2, .int pi3, .int pi4, .int pi5, .int pi6, .int pi7, .int pi8, i0, i0, i0, i0, i0, i0, i0, i0, i0, i0, i0, i0] rfl
  refine oD 246 X34 d10_245 rfl rfl <| ob 248 (v := 8) X34 d10_246 rfl (by decide) <| oA 249 X34 d10_248 rfl rfl <| ob 251 (v := 8) X34 d10_249 rfl (by decide) ?_
  have f37 := f33.oth W34 (by omega)
  refine oC 252 (v := (.int pi9)) X34 f37 ⟨by decide, by decide⟩ rfl d10_251 rfl ?_
  have f39 := f35.wr W34
  refine sC 253 8 pi9 X34 V36 (by decide) (lb rfl) (own_narC rg_pi9) d10_252 rfl (by omega) (Or.inr (by omega)) (sx X34 f39 nc0) ?_
  rintro _ _ X38 ⟨_, _, W38⟩ C38 V38
  have := W38.size
  have V40 := V38.as [.int pi1, .int pi2, .int pi3, .int pi4, .int pi5, .int pi6, .int pi7, .int pi8, .int pi9, i0, i0, i0, i0, i0, i0, i0, i0, i0, i0, i0] rfl
  refine oD 254 X38 d10_253 rfl rfl <| ob 256 (v := 9) X38 d10_254 rfl (by decide) <| oA 257 X38 d10_256 rfl rfl <| ob 259 (v := 9) X38 d10_257 rfl (by decide) ?_
  have f41 := f37.oth W38 (by omega)
  refine oC 260 (v := (.int pi10)) X38 f41 ⟨by decide, by decide⟩ rfl d10_259 rfl ?_
  have f43 := f39.wr W38
  refine sC 261 9 pi10 X38 V40 (by decide) (lb rfl) (own_narC rg_pi10) d10_260 rfl (by omega) (Or.inr (by omega)) (sx X38 f43 nc0) ?_
  rintro _ _ X42 ⟨_, _, W42⟩ C42 V42
  have := W42.size
  have V44 := V42.as [.int pi1, .int pi2, .int pi3, .int pi4, .int pi5, .int pi6, .int pi7, .int pi8, .int pi9, .int pi10, i0, i0, i0, i0, i0, i0, i0, i0, i0, i0] rfl
  refine oD 262 X42 d10_261 rfl rfl <| ob 264 (v := 10) X42 d10_262 rfl (by decide) <| oA 265 X42 d10_264 rfl rfl <| ob 267 (v := 10) X42 d10_265 rfl (by decide) ?_
  have f45 := f41.oth W42 (by omega)
  refine oC 268 (v := (.int pi11)) X42 f45 ⟨by decide, by decide⟩ rfl d10_267 rfl ?_
  have f47 := f43.wr W42
  refine sC 269 10 pi11 X42 V44 (by decide) (lb rfl) (own_narC rg_pi11) d10_268 rfl (by omega) (Or.inr (by omega)) (sx X42 f47 nc0) ?_
  rintro _ _ X46 ⟨_, _, W46⟩ C46 V46
  have := W46.size
  have V48 := V46.as [.int pi1, .int pi2, .int pi3, .int pi4, .int pi5, .int pi6, .int pi7, .int pi8, .int pi9, .int pi10, .int pi11, i0, i0, i0, i0, i0, i0, i0, i0, i0] rfl
  refine oD 270 X46 d10_269 rfl rfl <| ob 272 (v := 11) X46 d10_270 rfl (by decide) <| oA 273 X46 d10_272 rfl rfl <| ob 275 (v := 11) X46 d10_273 rfl (by decide) ?_
  have f49 := f45.oth W46 (by omega)
  refine oC 276 (v := (.int pi12)) X46 f49 ⟨by decide, by decide⟩ rfl d10_275 rfl ?_
  have f51 := f47.wr W46
  refine sC 277 11 pi12 X46 V48 (by decide) (lb rfl) (own_narC rg_pi12) d10_276 rfl (by omega) (Or.inr (by omega)) (sx X46 f51 nc0) ?_
  rintro _ _ X50 ⟨_, _, W50⟩ C50 V50
  have := W50.size
  have V52 := V50.as [.int pi1, .int pi2, .int pi3, .int pi4, .int pi5, .int pi6, .int pi7, .int pi8, .int pi9, .int pi10, .int pi11, .int pi12, i0, i0, i0, i0, i0, i0, i0, i0] rfl
  refine oD 278 X50 d10_277 rfl rfl <| ob 280 (v := 12) X50 d10_278 rfl (by decide) <| oA 281 X50 d10_280 rfl rfl <| ob 283 (v := 12) X50 d10_281 rfl (by decide) ?_
  have f53 := f49.oth W50 (by omega)
  refine oC 284 (v := (.int pi13)) X50 f53 ⟨by decide, by decide⟩ rfl d10_283 rfl ?_
  have f55 := f51.wr W50
  refine sC 285 12 pi13 X50 V52 (by decide) (lb rfl) (own_narC rg_pi13) d10_284 rfl (by omega) (Or.inr (by omega)) (sx X50 f55 nc0) ?_
  rintro _ _ X54 ⟨_, _, W54⟩ C54 V54
  have := W54.size
  have V56 := V54.as [.int pi1, .int pi2, .int pi3, .int pi4, .int pi5, .int pi6, .int pi7, .int pi8, .int pi9, .int pi10, .int pi11, .int pi12, .int pi13, i0, i0, i0, i0, i0, i0, i0] rfl
  refine oD 286 X54 d10_285 rfl rfl <| ob 288 (v := 13) X54 d10_286 rfl (by decide) <| oA 289 X54 d10_288 rfl rfl <| ob 291 (v := 13) X54 d10_289 rfl (by decide) ?_
  have f57 := f53.oth W54 (by omega)
  refine oC 292 (v := (.int pi14)) X54 f57 ⟨by decide, by decide⟩ rfl d10_291 rfl ?_
  have f59 := f55.wr W54
  refine sC 293 13 pi14 X54 V56 (by decide) (lb rfl) (own_narC rg_pi14) d10_292 rfl (by omega) (Or.inr (by omega)) (sx X54 f59 nc0) ?_
  rintro _ _ X58 ⟨_, _, W58⟩ C58 V58
  have := W58.size
  have V60 := V58.as [.int pi1, .int pi2, .int pi3, .int pi4, .int pi5, .int pi6, .int pi7, .int pi8, .int pi9, .int pi10, .int pi11, .int pi12, .int pi13, .int pi14, i0, i0, i0, i0, i0, i0] rfl
  refine oD 294 X58 d10_293 rfl rfl <| ob 296 (v := 14) X58 d10_294 rfl (by decide) <| oA 297 X58 d10_296 rfl rfl <| ob 299 (v := 14) X58 d10_297 rfl (by decide) ?_
  have f61 := f57.oth W58 (by omega)
  refine oC 300 (v := (.int pi15)) X58 f61 ⟨by decide, by decide⟩ rfl d10_299 rfl ?_
  have f63 := f59.wr W58
  refine sC 301 14 pi15 X58 V60 (by decide) (lb rfl) (own_narC rg_pi15) d10_300 rfl (by omega) (Or.inr (by omega)) (sx X58 f63 nc0) ?_
  rintro _ _ X62 ⟨_, _, W62⟩ C62 V62
  have := W62.size
  have V64 := V62.as [.int pi1, .int pi2, .int pi3, .int pi4, .int pi5, .int pi6, .int pi7, .int pi8, .int pi9, .int pi10, .int pi11, .int pi12, .int pi13, .int pi14, .int pi15, i0, i0, i0, i0, i0] rfl
  refine oD 302 X62 d10_301 rfl rfl <| ob 304 (v := 15) X62 d10_302 rfl (by decide) <| oA 305 X62 d10_304 rfl rfl <| ob 307 (v := 15) X62 d10_305 rfl (by decide) ?_
  have f65 := f61.oth W62 (by omega)
  refine oC 308 (v := (.int pi16)) X62 f65 ⟨by decide, by decide⟩ rfl d10_307 rfl ?_
  have f67 := f63.wr W62
  refine sC 309 15 pi16 X62 V64 (by decide) (lb rfl) (own_narC rg_pi16) d10_308 rfl (by omega) (Or.inr (by omega)) (sx X62 f67 nc0) ?_
  rintro _ _ X66 ⟨_, _, W66⟩ C66 V66
  have := W66.size
  have V68 := V66.as [.int pi1, .int pi2, .int pi3, .int pi4, .int pi5, .int pi6, .int pi7, .int pi8, .int pi9, .int pi10, .int pi11, .int pi12, .int pi13, .int pi14, .int pi15, .int pi16, i0, i0, i0, i0] rfl
  refine oD 310 X66 d10_309 rfl rfl <| ob 312 (v := 16) X66 d10_310 rfl (by decide) <| oA 313 X66 d10_312 rfl rfl <| ob 315 (v := 16) X66 d10_313 rfl (by decide) ?_
  have f69 := f65.oth W66 (by omega)
  refine oC 316 (v := (.int pi17)) X66 f69 ⟨by decide, by decide⟩ rfl d10_315 rfl ?_
  have f71 := f67.wr W66
  refine sC 317 16 pi17 X66 V68 (by decide) (lb rfl) (own_narC rg_pi17) d10_316 rfl (by omega) (Or.inr (by omega)) (sx X66 f71 nc0) ?_
  rintro _ _ X70 ⟨_, _, W70⟩ C70 V70
  have := W70.size
  have V72 := V70.as [.int pi1, .int pi2, .int pi3, .int pi4, .int pi5, .int pi6, .int pi7, .int pi8, .int pi9, .int pi10, .int pi11, .int pi12, .int pi13, .int pi14, .int pi15, .int pi16, .int pi17, i0, i0, i0] rfl
  refine oD 318 X70 d10_317 rfl rfl <| ob 320 (v := 17) X70 d10_318 rfl (by decide) <| oA 321 X70 d10_320 rfl rfl <| ob 323 (v := 17) X70 d10_321 rfl (by decide) ?_
  have f73 := f69.oth W70 (by omega)
  refine oC 324 (v := (.int pi18)) X70 f73 ⟨by decide, by decide⟩ rfl d10_323 rfl ?_
  have f75 := f71.wr W70
  refine sC 325 17 pi18 X70 V72 (by decide) (lb rfl) (own_narC rg_pi18) d10_324 rfl (by omega) (Or.inr (by omega)) (sx X70 f75 nc0) ?_
  rintro _ _ X74 ⟨_, _, W74⟩ C74 V74
  have := W74.size
  have V76 := V74.as [.int pi1, .int pi2, .int pi3, .int pi4, .int pi5, .int pi6, .int pi7, .int pi8, .int pi9, .int pi10, .int pi11, .int pi12, .int pi13, .int pi14, .int pi15, .int pi16, .int pi17, .int pi18, i0, i0] rfl
  refine oD 326 X74 d10_325 rfl rfl <| ob 328 (v := 18) X74 d10_326 rfl (by decide) <| oA 329 X74 d10_328 rfl rfl <| ob 331 (v := 18) X74 d10_329 rfl (by decide) ?_
  have f77 := f73.oth W74 (by omega)
  refine oC 332 (v := (.int pi19)) X74 f77 ⟨by decide, by decide⟩ rfl d10_331 rfl ?_
  have f79 := f75.wr W74
  refine sC 333 18 pi19 X74 V76 (by decide) (lb rfl) (own_narC rg_pi19) d10_332 rfl (by omega) (Or.inr (by omega)) (sx X74 f79 nc0) ?_
  rintro _ _ X78 ⟨_, _, W78⟩ C78 V78
  have := W78.size
  have V80 := V78.as [.int pi1, .int pi2, .int pi3, .int pi4, .int pi5, .int pi6, .int pi7, .int pi8, .int pi9, .int pi10, .int pi11, .int pi12, .int pi13, .int pi14, .int pi15, .int pi16, .int pi17, .int pi18, .int pi19, i0] rfl
  refine oD 334 X78 d10_333 rfl rfl <| ob 336 (v := 19) X78 d10_334 rfl (by decide) <| oA 337 X78 d10_336 rfl rfl <| ob 339 (v := 19) X78 d10_337 rfl (by decide) ?_
  have f81 := f77.oth W78 (by omega)
  refine oC 340 (v := (.int pi20)) X78 f81 ⟨by decide, by decide⟩ rfl d10_339 rfl ?_
  have f83 := f79.wr W78
  refine sC 341 19 pi20 X78 V80 (by decide) (lb rfl) (own_narC rg_pi20) d10_340 rfl (by omega) (Or.inr (by omega)) (sx X78 f83 nc0) ?_
  rintro _ _ X82 ⟨_, _, W82⟩ C82 V82
  have := W82.size
  have V84 := V82.as [.int pi1, .int pi2, .int pi3, .int pi4, .int pi5, .int pi6, .int pi7, .int pi8, .int pi9, .int pi10, .int pi11, .int pi12, .int pi13, .int pi14, .int pi15, .int pi16, .int pi17, .int pi18, .int pi19, .int pi20] rfl
  have f85 := ((((((((((((((((((((A1.ext E4).wr W7).wr W10).wr W14).wr W18).wr W22).wr W26).wr W30).wr W34).wr W38).wr W42).wr W46).wr W50).wr W54).wr W58).wr W62).wr W66).wr W70).wr W74).wr W78).wr W82
  have f86 := ((((((((((((((((((((f3.ext E4).oth W7 (by omega)).oth W10 (by omega)).oth W14 (by omega)).oth W18 (by omega)).oth W22 (by omega)).oth W26 (by omega)).oth W30 (by omega)).oth W34 (by omega)).oth W38 (by omega)).oth W42 (by omega)).oth W46 (by omega)).oth W50 (by omega)).oth W54 (by omega)).oth W58 (by omega)).oth W62 (by omega)).oth W66 (by omega)).oth W70 (by omega)).oth W74 (by omega)).oth W78 (by omega)).oth W82 (by omega)
  have f87 := ((((((((((((((((((((f2.ext E4).oth W7 (by omega)).oth W10 (by omega)).oth W14 (by omega)).oth W18 (by omega)).oth W22 (by omega)).oth W26 (by omega)).oth W30 (by omega)).oth W34 (by omega)).oth W38 (by omega)).oth W42 (by omega)).oth W46 (by omega)).oth W50 (by omega)).oth W54 (by omega)).oth W58 (by omega)).oth W62 (by omega)).oth W66 (by omega)).oth W70 (by omega)).oth W74 (by omega)).oth W78 (by omega)).oth W82 (by omega)
  have f88 := C82.safe (own_lt (by omega)) (C78.safe (own_lt (by omega)) (C74.safe (own_lt (by omega)) (C70.safe (own_lt (by omega)) (C66.safe (own_lt (by omega)) (C62.safe (own_lt (by omega)) (C58.safe (own_lt (by omega)) (C54.safe (own_lt (by omega)) (C50.safe (own_lt (by omega)) (C46.safe (own_lt (by omega)) (C42.safe (own_lt (by omega)) (C38.safe (own_lt (by omega)) (C34.safe (own_lt (by omega)) (C30.safe (own_lt (by omega)) (C26.safe (own_lt (by omega)) (C22.safe (own_lt (by omega)) (C18.safe (own_lt (by omega)) (C14.safe (own_lt (by omega)) (C10.safe (own_lt (by omega)) (C7.safe (own_lt (by omega)) (C4.safe (own_lt (by omega)) S1))))))))))))))))))))
  refine mP 344 1 X82 (rm_au82 G f85 f86 f87 V84 rg_pi1 rg_pi2 rg_pi3 rg_pi4 rg_pi5 rg_pi6 rg_pi7 rg_pi8 rg_pi9 rg_pi10 rg_pi11 rg_pi12 rg_pi13 rg_pi14 rg_pi15 rg_pi16 rg_pi17 rg_pi18 rg_pi19 rg_pi20 (by omega)) (u21 G) (sS (by omega) f88 all0) d10_341 rfl rfl rfl lr (by decide) (aR (by omega) all0) ?_
  rintro _ _ _ _ X89 ⟨xa1_90, xk1_91, rfl, q92, q93, q94, q95, q96, q97, _⟩ _ _ C89
  have f99 := C89.safe (own_lt (by omega)) f88
  exact oR X89 d10_344 rfl rfl rfl (by decide) (by decide) (fun _ CC => ⟨b1, xa1_90, xk1_91, rfl, q92, q93, q94, (CC.safe (own_lt (by omega)) f99), q95, q96, (CC.safe (own_lt (by omega)) q97), by omega⟩)
def Q38 (Z : State) (b1 : Addr) (b2 : ClassId) (b3 b4 b5 b6 b7 b8 b9 b10 b11 b12 b13 b14 b15 b16 b17 b18 b19 b20 b21 b22 b23 : Int32) (h0 : Heap) (v : Option Value) (h : Heap) (vm : Vm) : Prop := v = some (.int 21) ∧ av0 Z h b1 b2 21 [.int (b3.toInt8.toInt32), .int (b4.toInt8.toInt32), .int (b5.toInt8.toInt32), .int (b6.toInt8.toInt32), .int (b7.toInt8.toInt32), .int (b8.toInt8.toInt32), .int (b9.toInt8.toInt32), .int (b10.toInt8.toInt32), .int (b11.toInt8.toInt32), .int (b12.toInt8.toInt32), .int (b13.toInt8.toInt32), .int (b14.toInt8.toInt32), .int (b15.toInt8.toInt32), .int (b16.toInt8.toInt32), .int (b17.toInt8.toInt32), .int (b18.toInt8.toInt32), .int (b19.toInt8.toInt32), .int (b20.toInt8.toInt32), .int (b21.toInt8.toInt32), .int (b22.toInt8.toInt32), .int (b23.toInt8.toInt32)] ∧ ex3 Z h b1
theorem rm_au84 (F0 : av1 Z h0 pa1 pk1 21 [.int pi1, .int pi2, .int pi3, .int pi4, .int pi5, .int pi6, .int pi7, .int pi8, .int pi9, .int pi10, .int pi11, .int pi12, .int pi13, .int pi14, .int pi15, .int pi16, .int pi17, .int pi18, .int pi19, .int pi20, .int pi21]) (F1 : av0 Z h0 pa2 pk2 21 [i0, i0, i0, i0, i0, i0, i0, i0, i0, i0, i0, i0, i0, i0, i0, i0, i0, i0, i0, i0, i0]) (F2 : ex3 Z h0 pa2) (rg_pi1 : ¬ pi1 < 0 ∧ ¬ (255 : Int32) < pi1) (rg_pi2 : ¬ pi2 < 0 ∧ ¬ (255 : Int32) < pi2) (rg_pi3 : ¬ pi3 < 0 ∧ ¬ (255 : Int32) < pi3) (rg_pi4 : ¬ pi4 < 0 ∧ ¬ (255 : Int32) < pi4) (rg_pi5 : ¬ pi5 < 0 ∧ ¬ (255 : Int32) < pi5) (rg_pi6 : ¬ pi6 < 0 ∧ ¬ (255 : Int32) < pi6) (rg_pi7 : ¬ pi7 < 0 ∧ ¬ (255 : Int32) < pi7) (rg_pi8 : ¬ pi8 < 0 ∧ ¬ (255 : Int32) < pi8) (rg_pi9 : ¬ pi9 < 0 ∧ ¬ (255 : Int32) < pi9) (rg_pi10 : ¬ pi10 < 0 ∧ ¬ (255 : Int32) < pi10) (rg_pi11 : ¬ pi11 < 0 ∧ ¬ (255 : Int32) < pi11) (rg_pi12 : ¬ pi12 < 0 ∧ ¬ (255 : Int32) < pi12) (rg_pi13 : ¬ pi13 < 0 ∧ ¬ (255 : Int32) < pi13) (rg_pi14 : ¬ pi14 < 0 ∧ ¬ (255 : Int32) < pi14) (rg_pi15 : ¬ pi15 < 0 ∧ ¬ (255 : Int32) < pi15) (rg_pi16 : ¬ pi16 < 0 ∧ ¬ (255 : Int32) < pi16) (rg_pi17 : ¬ pi17 < 0 ∧ ¬ (255 : Int32) < pi17) (rg_pi18 : ¬ pi18 < 0 ∧ ¬ (255 : Int32) < pi18) (rg_pi19 : ¬ pi19 < 0 ∧ ¬ (255 : Int32) < pi19) (rg_pi20 : ¬ pi20 < 0 ∧ ¬ (255 : Int32) < pi20) (rg_pi21 : ¬ pi21 < 0 ∧ ¬ (255 : Int32) < pi21) (ne : NE pa1 pa2 ∧ n0 ≤ pa2) : M20 G 0 0 0 0 #[.ref pa1, i0, .ref pa2, i0, .int 21] h0 n0 [pa2] [pa2] (Q38 Z pa2 pk2 pi1 pi2 pi3 pi4 pi5 pi6 pi7 pi8 pi9 pi10 pi11 pi12 pi13 pi14 pi15 pi16 pi17 pi18 pi19 pi20 pi21 h0) := by
  refine mi B20 ef14 (hEW G) fun s X0 hsf0 n0le => ?_
  have := F0.l
  have := F1.l
  have sf_pa2 := hsf0 pa2 (by simp)
  refine oc 1 (v := 0) X0 d20_0 rfl (by decide) <| oS 3 (l' := #[rr pa1, ii 0, rr pa2, ii 0, ii 21, ii 0, uu]) X0 d20_1 rfl rfl <| oi 5 X0 d20_3 rfl rfl <| oi 7 X0 d20_5 rfl rfl <| oN 10 X0 d20_7 rfl (tlt (by decide)).2.1 <| oA 11 X0 d20_10 rfl rfl <| oI 12 X0 d20_11 rfl rfl <| oC 13 (v := (.int pi1)) X0 F0 ⟨by decide, by decide⟩ rfl d20_12 rfl <| oS 15 (l' := #[rr pa1, ii 0, rr pa2, ii 0, ii 21, ii 0, ii pi1]) X0 d20_13 rfl rfl <| oi 17 X0 d20_15 rfl rfl <| o_sipush 20 (v := 255) X0 d20_17 rfl (by decide) <| oY 26 X0 d20_20 (by decide) (flt rg_pi1.2).2.2.2 ?_
  refine oA 27 X0 d20_26 rfl rfl <| oI 28 X0 d20_27 rfl rfl <| oi 30 X0 d20_28 rfl rfl <| o_i2b 31 (v := (pi1.toInt8.toInt32)) X0 d20_30 rfl rfl <| sB 32 0 (pi1.toInt8.toInt32) X0 F1 (by decide) (lb rfl) (own_narB _) d20_31 rfl (by omega) (Or.inl (by simp)) sf_pa2 ?_
  rintro _ _ X1 ⟨_, _, W1⟩ C1 V1
  have := W1.size
  have V2 := V1.as [.int (pi1.toInt8.toInt32), i0, i0, i0, i0, i0, i0, i0, i0, i0, i0, i0, i0, i0, i0, i0, i0, i0, i0, i0, i0] rfl
  refine oJ 35 1 #[rr pa1, ii 1, rr pa2, ii 0, ii 21, ii 0, ii pi1] X1 d20_32 rfl rfl (by decide) rfl <| oJ 38 1 #[rr pa1, ii 1, rr pa2, ii 1, ii 21, ii 0, ii pi1] X1 d20_35 rfl rfl (by decide) rfl <| oJ 41 1 #[rr pa1, ii 1, rr pa2, ii 1, ii 21, ii 1, ii pi1] X1 d20_38 rfl rfl (by decide) rfl <| og 3 X1 d20_41 (by decide) <| oi 5 X1 d20_3 rfl rfl <| oi 7 X1 d20_5 rfl rfl <| oN 10 X1 d20_7 rfl (tlt (by decide)).2.1 <| oA 11 X1 d20_10 rfl rfl <| oI 12 X1 d20_11 rfl rfl ?_
  have f3 := F0.oth W1 (by omega)
  refine oC 13 (v := (.int pi2)) X1 f3 ⟨by decide, by decide⟩ rfl d20_12 rfl <| oS 15 (l' := #[rr pa1, ii 1, rr pa2, ii 1, ii 21, ii 1, ii pi2]) X1 d20_13 rfl rfl <| oi 17 X1 d20_15 rfl rfl <| o_sipush 20 (v := 255) X1 d20_17 rfl (by decide) <| oY 26 X1 d20_20 (by decide) (flt rg_pi2.2).2.2.2 <| oA 27 X1 d20_26 rfl rfl <| oI 28 X1 d20_27 rfl rfl <| oi 30 X1 d20_28 rfl rfl <| o_i2b 31 (v := (pi2.toInt8.toInt32)) X1 d20_30 rfl rfl ?_
  have f5 := C1.safe (own_lt (by omega)) sf_pa2
  refine sB 32 1 (pi2.toInt8.toInt32) X1 V2 (by decide) (lb rfl) (own_narB _) d20_31 rfl (by omega) (Or.inl (by simp)) f5 ?_
  rintro _ _ X4 ⟨_, _, W4⟩ C4 V4
  have := W4.size
  have V6 := V4.as [.int (pi1.toInt8.toInt32), .int (pi2.toInt8.toInt32), i0, i0, i0, i0, i0, i0, i0, i0, i0, i0, i0, i0, i0, i0, i0, i0, i0, i0, i0] rfl
  refine oJ 35 2 #[rr pa1, ii 2, rr pa2, ii 1, ii 21, ii 1, ii pi2] X4 d20_32 rfl rfl (by decide) rfl <| oJ 38 2 #[rr pa1, ii 2, rr pa2, ii 2, ii 21, ii 1, ii pi2] X4 d20_35 rfl rfl (by decide) rfl <| oJ 41 2 #[rr pa1, ii 2, rr pa2, ii 2, ii 21, ii 2, ii pi2] X4 d20_38 rfl rfl (by decide) rfl <| og 3 X4 d20_41 (by decide) <| oi 5 X4 d20_3 rfl rfl <| oi 7 X4 d20_5 rfl rfl <| oN 10 X4 d20_7 rfl (tlt (by decide)).2.1 <| oA 11 X4 d20_10 rfl rfl <| oI 12 X4 d20_11 rfl rfl ?_
  have f7 := f3.oth W4 (by omega)
  refine oC 13 (v := (.int pi3)) X4 f7 ⟨by decide, by decide⟩ rfl d20_12 rfl <| oS 15 (l' := #[rr pa1, ii 2, rr pa2, ii 2, ii 21, ii 2, ii pi3]) X4 d20_13 rfl rfl <| oi 17 X4 d20_15 rfl rfl <| o_sipush 20 (v := 255) X4 d20_17 rfl (by decide) <| oY 26 X4 d20_20 (by decide) (flt rg_pi3.2).2.2.2 <| oA 27 X4 d20_26 rfl rfl <| oI 28 X4 d20_27 rfl rfl <| oi 30 X4 d20_28 rfl rfl <| o_i2b 31 (v := (pi3.toInt8.toInt32)) X4 d20_30 rfl rfl ?_
  have f9 := C4.safe (own_lt (by omega)) f5
  refine sB 32 2 (pi3.toInt8.toInt32) X4 V6 (by decide) (lb rfl) (own_narB _) d20_31 rfl (by omega) (Or.inl (by simp)) f9 ?_
  rintro _ _ X8 ⟨_, _, W8⟩ C8 V8
  have := W8.size
  have V10 := V8.as [.int (pi1.toInt8.toInt32), .int (pi2.toInt8.toInt32), .int (pi3.toInt8.toInt32), i0, i0, i0, i0, i0, i0, i0, i0, i0, i0, i0, i0, i0, i0, i0, i0, i0, i0] rfl
  refine oJ 35 3 #[rr pa1, ii 3, rr pa2, ii 2, ii 21, ii 2, ii pi3] X8 d20_32 rfl rfl (by decide) rfl <| oJ 38 3 #[rr pa1, ii 3, rr pa2, ii 3, ii 21, ii 2, ii pi3] X8 d20_35 rfl rfl (by decide) rfl <| oJ 41 3 #[rr pa1, ii 3, rr pa2, ii 3, ii 21, ii 3, ii pi3] X8 d20_38 rfl rfl (by decide) rfl <| og 3 X8 d20_41 (by decide) <| oi 5 X8 d20_3 rfl rfl <| oi 7 X8 d20_5 rfl rfl <| oN 10 X8 d20_7 rfl (tlt (by decide)).2.1 <| oA 11 X8 d20_10 rfl rfl <| oI 12 X8 d20_11 rfl rfl ?_
  have f11 := f7.oth W8 (by omega)
  refine oC 13 (v := (.int pi4)) X8 f11 ⟨by decide, by decide⟩ rfl d20_12 rfl <| oS 15 (l' := #[rr pa1, ii 3, rr pa2, ii 3, ii 21, ii 3, ii pi4]) X8 d20_13 rfl rfl <| oi 17 X8 d20_15 rfl rfl <| o_sipush 20 (v := 255) X8 d20_17 rfl (by decide) <| oY 26 X8 d20_20 (by decide) (flt rg_pi4.2).2.2.2 <| oA 27 X8 d20_26 rfl rfl <| oI 28 X8 d20_27 rfl rfl <| oi 30 X8 d20_28 rfl rfl <| o_i2b 31 (v := (pi4.toInt8.toInt32)) X8 d20_30 rfl rfl ?_
  have f13 := C8.safe (own_lt (by omega)) f9
  refine sB 32 3 (pi4.toInt8.toInt32) X8 V10 (by decide) (lb rfl) (own_narB _) d20_31 rfl (by omega) (Or.inl (by simp)) f13 ?_
  rintro _ _ X12 ⟨_, _, W12⟩ C12 V12
  have := W12.size
  have V14 := V12.as [.int (pi1.toInt8.toInt32), .int (pi2.toInt8.toInt32), .int (pi3.toInt8.toInt32), .int (pi4.toInt8.toInt32), i0, i0, i0, i0, i0, i0, i0, i0, i0, i0, i0, i0, i0, i0, i0, i0, i0] rfl
  refine oJ 35 4 #[rr pa1, ii 4, rr pa2, ii 3, ii 21, ii 3, ii pi4] X12 d20_32 rfl rfl (by decide) rfl <| oJ 38 4 #[rr pa1, ii 4, rr pa2, ii 4, ii 21, ii 3, ii pi4] X12 d20_35 rfl rfl (by decide) rfl <| oJ 41 4 #[rr pa1, ii 4, rr pa2, ii 4, ii 21, ii 4, ii pi4] X12 d20_38 rfl rfl (by decide) rfl <| og 3 X12 d20_41 (by decide) <| oi 5 X12 d20_3 rfl rfl <| oi 7 X12 d20_5 rfl rfl <| oN 10 X12 d20_7 rfl (tlt (by decide)).2.1 <| oA 11 X12 d20_10 rfl rfl <| oI 12 X12 d20_11 rfl rfl ?_
  have f15 := f11.oth W12 (by omega)
  refine oC 13 (v := (.int pi5)) X12 f15 ⟨by decide, by decide⟩ rfl d20_12 rfl <| oS 15 (l' := #[rr pa1, ii 4, rr pa2, ii 4, ii 21, ii 4, ii pi5]) X12 d20_13 rfl rfl <| oi 17 X12 d20_15 rfl rfl <| o_sipush 20 (v := 255) X12 d20_17 rfl (by decide) <| oY 26 X12 d20_20 (by decide) (flt rg_pi5.2).2.2.2 <| oA 27 X12 d20_26 rfl rfl <| oI 28 X12 d20_27 rfl rfl <| oi 30 X12 d20_28 rfl rfl <| o_i2b 31 (v := (pi5.toInt8.toInt32)) X12 d20_30 rfl rfl ?_
  have f17 := C12.safe (own_lt (by omega)) f13
  refine sB 32 4 (pi5.toInt8.toInt32) X12 V14 (by decide) (lb rfl) (own_narB _) d20_31 rfl (by omega) (Or.inl (by simp)) f17 ?_
  rintro _ _ X16 ⟨_, _, W16⟩ C16 V16
  have := W16.size
  have V18 := V16.as [.int (pi1.toInt8.toInt32), .int (pi2.toInt8.toInt32), .int (pi3.toInt8.toInt32), .int (pi4.toInt8.toInt32), .int (pi5.toInt8.toInt32), i0, i0, i0, i0, i0, i0, i0, i0, i0, i0, i0, i0, i0, i0, i0, i0] rfl
  refine oJ 35 5 #[rr pa1, ii 5, rr pa2, ii 4, ii 21, ii 4, ii pi5] X16 d20_32 rfl rfl (by decide) rfl <| oJ 38 5 #[rr pa1, ii 5, rr pa2, ii 5, ii 21, ii 4, ii pi5] X16 d20_35 rfl rfl (by decide) rfl <| oJ 41 5 #[rr pa1, ii 5, rr pa2, ii 5, ii 21, ii 5, ii pi5] X16 d20_38 rfl rfl (by decide) rfl <| og 3 X16 d20_41 (by decide) <| oi 5 X16 d20_3 rfl rfl <| oi 7 X16 d20_5 rfl rfl <| oN 10 X16 d20_7 rfl (tlt (by decide)).2.1 <| oA 11 X16 d20_10 rfl rfl <| oI 12 X16 d20_11 rfl rfl ?_
  have f19 := f15.oth W16 (by omega)
  refine oC 13 (v := (.int pi6)) X16 f19 ⟨by decide, by decide⟩ rfl d20_12 rfl <| oS 15 (l' := #[rr pa1, ii 5, rr pa2, ii 5, ii 21, ii 5, ii pi6]) X16 d20_13 rfl rfl <| oi 17 X16 d20_15 rfl rfl <| o_sipush 20 (v := 255) X16 d20_17 rfl (by decide) <| oY 26 X16 d20_20 (by decide) (flt rg_pi6.2).2.2.2 <| oA 27 X16 d20_26 rfl rfl <| oI 28 X16 d20_27 rfl rfl <| oi 30 X16 d20_28 rfl rfl <| o_i2b 31 (v := (pi6.toInt8.toInt32)) X16 d20_30 rfl rfl ?_
  have f21 := C16.safe (own_lt (by omega)) f17
  refine sB 32 5 (pi6.toInt8.toInt32) X16 V18 (by decide) (lb rfl) (own_narB _) d20_31 rfl (by omega) (Or.inl (by simp)) f21 ?_
  rintro _ _ X20 ⟨_, _, W20⟩ C20 V20
  have := W20.size
  have V22 := V20.as [.int (pi1.toInt8.toInt32), .int (pi2.toInt8.toInt32), .int (pi3.toInt8.toInt32), .int (pi4.toInt8.toInt32), .int (pi5.toInt8.toInt32), .int (pi6.toInt8.toInt32), i0, i0, i0, i0, i0, i0, i0, i0, i0, i0, i0, i0, i0, i0, i0] rfl
  refine oJ 35 6 #[rr pa1, ii 6, rr pa2, ii 5, ii 21, ii 5, ii pi6] X20 d20_32 rfl rfl (by decide) rfl <| oJ 38 6 #[rr pa1, ii 6, rr pa2, ii 6, ii 21, ii 5, ii pi6] X20 d20_35 rfl rfl (by decide) rfl <| oJ 41 6 #[rr pa1, ii 6, rr pa2, ii 6, ii 21, ii 6, ii pi6] X20 d20_38 rfl rfl (by decide) rfl <| og 3 X20 d20_41 (by decide) <| oi 5 X20 d20_3 rfl rfl <| oi 7 X20 d20_5 rfl rfl <| oN 10 X20 d20_7 rfl (tlt (by decide)).2.1 <| oA 11 X20 d20_10 rfl rfl <| oI 12 X20 d20_11 rfl rfl ?_
  have f23 := f19.oth W20 (by omega)
  refine oC 13 (v := (.int pi7)) X20 f23 ⟨by decide, by decide⟩ rfl d20_12 rfl <| oS 15 (l' := #[rr pa1, ii 6, rr pa2, ii 6, ii 21, ii 6, ii pi7]) X20 d20_13 rfl rfl <| oi 17 X20 d20_15 rfl rfl <| o_sipush 20 (v := 255) X20 d20_17 rfl (by decide) <| oY 26 X20 d20_20 (by decide) (flt rg_pi7.2).2.2.2 <| oA 27 X20 d20_26 rfl rfl <| oI 28 X20 d20_27 rfl rfl <| oi 30 X20 d20_28 rfl rfl <| o_i2b 31 (v := (pi7.toInt8.toInt32)) X20 d20_30 rfl rfl ?_
  have f25 := C20.safe (own_lt (by omega)) f21
  refine sB 32 6 (pi7.toInt8.toInt32) X20 V22 (by decide) (lb rfl) (own_narB _) d20_31 rfl (by omega) (Or.inl (by simp)) f25 ?_
  rintro _ _ X24 ⟨_, _, W24⟩ C24 V24
  have := W24.size
  have V26 := V24.as [.int (pi1.toInt8.toInt32), .int (pi2.toInt8.toInt32), .int (pi3.toInt8.toInt32), .int (pi4.toInt8.toInt32), .int (pi5.toInt8.toInt32), .int (pi6.toInt8.toInt32), .int (pi7.toInt8.toInt32), i0, i0, i0, i0, i0, i0, i0, i0, i0, i0, i0, i0, i0, i0] rfl
  refine oJ 35 7 #[rr pa1, ii 7, rr pa2, ii 6, ii 21, ii 6, ii pi7] X24 d20_32 rfl rfl (by decide) rfl <| oJ 38 7 #[rr pa1, ii 7, rr pa2, ii 7, ii 21, ii 6, ii pi7] X24 d20_35 rfl rfl (by decide) rfl <| oJ 41 7 #[rr pa1, ii 7, rr pa2, ii 7, ii 21, ii 7, ii pi7] X24 d20_38 rfl rfl (by decide) rfl <| og 3 X24 d20_41 (by decide) <| oi 5 X24 d20_3 rfl rfl <| oi 7 X24 d20_5 rfl rfl <| oN 10 X24 d20_7 rfl (tlt (by decide)).2.1 <| oA 11 X24 d20_10 rfl rfl <| oI 12 X24 d20_11 rfl rfl ?_
  have f27 := f23.oth W24 (by omega)
  refine oC 13 (v := (.int pi8)) X24 f27 ⟨by decide, by decide⟩ rfl d20_12 rfl <| oS 15 (l' := #[rr pa1, ii 7, rr pa2, ii 7, ii 21, ii 7, ii pi8]) X24 d20_13 rfl rfl <| oi 17 X24 d20_15 rfl rfl <| o_sipush 20 (v := 255) X24 d20_17 rfl (by decide) <| oY 26 X24 d20_20 (by decide) (flt rg_pi8.2).2.2.2 <| oA 27 X24 d20_26 rfl rfl <| oI 28 X24 d20_27 rfl rfl <| oi 30 X24 d20_28 rfl rfl <| o_i2b 31 (v := (pi8.toInt8.toInt32)) X24 d20_30 rfl rfl ?_
  have f29 := C24.safe (own_lt (by omega)) f25
  refine sB 32 7 (pi8.toInt8.toInt32) X24 V26 (by decide) (lb rfl) (own_narB _) d20_31 rfl (by omega) (Or.inl (by simp)) f29 ?_
  rintro _ _ X28 ⟨_, _, W28⟩ C28 V28
  have := W28.size
  have V30 := V28.as [.int (pi1.toInt8.toInt32), .int (pi2.toInt8.toInt32), .int (pi3.toInt8.toInt32), .int (pi4.toInt8.toInt32), .int (pi5.toInt8.toInt32), .int (pi6.toInt8.toInt32), .int (pi7.toInt8.toInt32), .int (pi8.toInt8.toInt32), i0, i0, i0, i0, i0, i0, i0, i0, i0, i0, i0, i0, i0] rfl
  refine oJ 35 8 #[rr pa1, ii 8, rr pa2, ii 7, ii 21, ii 7, ii pi8] X28 d20_32 rfl rfl (by decide) rfl <| oJ 38 8 #[rr pa1, ii 8, rr pa2, ii 8, ii 21, ii 7, ii pi8] X28 d20_35 rfl rfl (by decide) rfl <| oJ 41 8 #[rr pa1, ii 8, rr pa2, ii 8, ii 21, ii 8, ii pi8] X28 d20_38 rfl rfl (by decide) rfl <| og 3 X28 d20_41 (by decide) <| oi 5 X28 d20_3 rfl rfl <| oi 7 X28 d20_5 rfl rfl <| oN 10 X28 d20_7 rfl (tlt (by decide)).2.1 <| oA 11 X28 d20_10 rfl rfl <| oI 12 X28 d20_11 rfl rfl ?_
  have f31 := f27.oth W28 (by omega)
  refine oC 13 (v := (.int pi9)) X28 f31 ⟨by decide, by decide⟩ rfl d20_12 rfl <| oS 15 (l' := #[rr pa1, ii 8, rr pa2, ii 8, ii 21, ii 8, ii pi9]) X28 d20_13 rfl rfl <| oi 17 X28 d20_15 rfl rfl <| o_sipush 20 (v := 255) X28 d20_17 rfl (by decide) <| oY 26 X28 d20_20 (by decide) (flt rg_pi9.2).2.2.2 <| oA 27 X28 d20_26 rfl rfl <| oI 28 X28 d20_27 rfl rfl <| oi 30 X28 d20_28 rfl rfl <| o_i2b 31 (v := (pi9.toInt8.toInt32)) X28 d20_30 rfl rfl ?_
  have f33 := C28.safe (own_lt (by omega)) f29
  refine sB 32 8 (pi9.toInt8.toInt32) X28 V30 (by decide) (lb rfl) (own_narB _) d20_31 rfl (by omega) (Or.inl (by simp)) f33 ?_
  rintro _ _ X32 ⟨_, _, W32⟩ C32 V32
  have := W32.size
  have V34 := V32.as [.int (pi1.toInt8.toInt32), .int (pi2.toInt8.toInt32), .int (pi3.toInt8.toInt32), .int (pi4.toInt8.toInt32), .int (pi5.toInt8.toInt32), .int (pi6.toInt8.toInt32), .int (pi7.toInt8.toInt32), .int (pi8.toInt8.toInt32), .int (pi9.toInt8.toInt32), i0, i0, i0, i0, i0, i0, i0, i0, i0, i0, i0, i0] rfl
  refine oJ 35 9 #[rr pa1, ii 9, rr pa2, ii 8, ii 21, ii 8, ii pi9] X32 d20_32 rfl rfl (by decide) rfl <| oJ 38 9 #[rr pa1, ii 9, rr pa2, ii 9, ii 21, ii 8, ii pi9] X32 d20_35 rfl rfl (by decide) rfl <| oJ 41 9 #[rr pa1, ii 9, rr pa2, ii 9, ii 21, ii 9, ii pi9] X32 d20_38 rfl rfl (by decide) rfl <| og 3 X32 d20_41 (by decide) <| oi 5 X32 d20_3 rfl rfl <| oi 7 X32 d20_5 rfl rfl <| oN 10 X32 d20_7 rfl (tlt (by decide)).2.1 <| oA 11 X32 d20_10 rfl rfl <| oI 12 X32 d20_11 rfl rfl ?_
  have f35 := f31.oth W32 (by omega)
  refine oC 13 (v := (.int pi10)) X32 f35 ⟨by decide, by decide⟩ rfl d20_12 rfl <| oS 15 (l' := #[rr pa1, ii 9, rr pa2, ii 9, ii 21, ii 9, ii pi10]) X32 d20_13 rfl rfl <| oi 17 X32 d20_15 rfl rfl <| o_sipush 20 (v := 255) X32 d20_17 rfl (by decide) <| oY 26 X32 d20_20 (by decide) (flt rg_pi10.2).2.2.2 <| oA 27 X32 d20_26 rfl rfl <| oI 28 X32 d20_27 rfl rfl <| oi 30 X32 d20_28 rfl rfl <| o_i2b 31 (v := (pi10.toInt8.toInt32)) X32 d20_30 rfl rfl ?_
  have f37 := C32.safe (own_lt (by omega)) f33
  refine sB 32 9 (pi10.toInt8.toInt32) X32 V34 (by decide) (lb rfl) (own_narB _) d20_31 rfl (by omega) (Or.inl (by simp)) f37 ?_
  rintro _ _ X36 ⟨_, _, W36⟩ C36 V36
  have := W36.size
  have V38 := V36.as [.int (pi1.toInt8.toInt32), .int (pi2.toInt8.toInt32), .int (pi3.toInt8.toInt32), .int (pi4.toInt8.toInt32), .int (pi5.toInt8.toInt32), .int (pi6.toInt8.toInt32), .int (pi7.toInt8.toInt32), .int (pi8.toInt8.toInt32), .int (pi9.toInt8.toInt32), .int (pi10.toInt8.toInt32), i0, i0, i0, i0, i0, i0, i0, i0, i0, i0, i0] rfl
  refine oJ 35 10 #[rr pa1, ii 10, rr pa2, ii 9, ii 21, ii 9, ii pi10] X36 d20_32 rfl rfl (by decide) rfl <| oJ 38 10 #[rr pa1, ii 10, rr pa2, ii 10, ii 21, ii 9, ii pi10] X36 d20_35 rfl rfl (by decide) rfl <| oJ 41 10 #[rr pa1, ii 10, rr pa2, ii 10, ii 21, ii 10, ii pi10] X36 d20_38 rfl rfl (by decide) rfl <| og 3 X36 d20_41 (by decide) <| oi 5 X36 d20_3 rfl rfl <| oi 7 X36 d20_5 rfl rfl <| oN 10 X36 d20_7 rfl (tlt (by decide)).2.1 <| oA 11 X36 d20_10 rfl rfl <| oI 12 X36 d20_11 rfl rfl ?_
  have f39 := f35.oth W36 (by omega)
  refine oC 13 (v := (.int pi11)) X36 f39 ⟨by decide, by decide⟩ rfl d20_12 rfl <| oS 15 (l' := #[rr pa1, ii 10, rr pa2, ii 10, ii 21, ii 10, ii pi11]) X36 d20_13 rfl rfl <| oi 17 X36 d20_15 rfl rfl <| o_sipush 20 (v := 255) X36 d20_17 rfl (by decide) <| oY 26 X36 d20_20 (by decide) (flt rg_pi11.2).2.2.2 <| oA 27 X36 d20_26 rfl rfl <| oI 28 X36 d20_27 rfl rfl <| oi 30 X36 d20_28 rfl rfl <| o_i2b 31 (v := (pi11.toInt8.toInt32)) X36 d20_30 rfl rfl ?_
  have f41 := C36.safe (own_lt (by omega)) f37
  refine sB 32 10 (pi11.toInt8.toInt32) X36 V38 (by decide) (lb rfl) (own_narB _) d20_31 rfl (by omega) (Or.inl (by simp)) f41 ?_
  rintro _ _ X40 ⟨_, _, W40⟩ C40 V40
  have := W40.size
  have V42 := V40.as [.int (pi1.toInt8.toInt32), .int (pi2.toInt8.toInt32), .int (pi3.toInt8.toInt32), .int (pi4.toInt8.toInt32), .int (pi5.toInt8.toInt32), .int (pi6.toInt8.toInt32), .int (pi7.toInt8.toInt32), .int (pi8.toInt8.toInt32), .int (pi9.toInt8.toInt32), .int (pi10.toInt8.toInt32), .int (pi11.toInt8.toInt32), i0, i0, i0, i0, i0, i0, i0, i0, i0, i0] rfl
  refine oJ 35 11 #[rr pa1, ii 11, rr pa2, ii 10, ii 21, ii 10, ii pi11] X40 d20_32 rfl rfl (by decide) rfl <| oJ 38 11 #[rr pa1, ii 11, rr pa2, ii 11, ii 21, ii 10, ii pi11] X40 d20_35 rfl rfl (by decide) rfl <| oJ 41 11 #[rr pa1, ii 11, rr pa2, ii 11, ii 21, ii 11, ii pi11] X40 d20_38 rfl rfl (by decide) rfl <| og 3 X40 d20_41 (by decide) <| oi 5 X40 d20_3 rfl rfl <| oi 7 X40 d20_5 rfl rfl <| oN 10 X40 d20_7 rfl (tlt (by decide)).2.1 <| oA 11 X40 d20_10 rfl rfl <| oI 12 X40 d20_11 rfl rfl ?_
  have f43 := f39.oth W40 (by omega)
  refine oC 13 (v := (.int pi12)) X40 f43 ⟨by decide, by decide⟩ rfl d20_12 rfl <| oS 15 (l' := #[rr pa1, ii 11, rr pa2, ii 11, ii 21, ii 11, ii pi12]) X40 d20_13 rfl rfl <| oi 17 X40 d20_15 rfl rfl <| o_sipush 20 (v := 255) X40 d20_17 rfl (by decide) <| oY 26 X40 d20_20 (by decide) (flt rg_pi12.2).2.2.2 <| oA 27 X40 d20_26 rfl rfl <| oI 28 X40 d20_27 rfl rfl <| oi 30 X40 d20_28 rfl rfl <| o_i2b 31 (v := (pi12.toInt8.toInt32)) X40 d20_30 rfl rfl ?_
  have f45 := C40.safe (own_lt (by omega)) f41
  refine sB 32 11 (pi12.toInt8.toInt32) X40 V42 (by decide) (lb rfl) (own_narB _) d20_31 rfl (by omega) (Or.inl (by simp)) f45 ?_
  rintro _ _ X44 ⟨_, _, W44⟩ C44 V44
  have := W44.size
  have V46 := V44.as [.int (pi1.toInt8.toInt32), .int (pi2.toInt8.toInt32), .int (pi3.toInt8.toInt32), .int (pi4.toInt8.toInt32), .int (pi5.toInt8.toInt32), .int (pi6.toInt8.toInt32), .int (pi7.toInt8.toInt32), .int (pi8.toInt8.toInt32), .int (pi9.toInt8.toInt32), .int (pi10.toInt8.toInt32), .int (pi11.toInt8.toInt32), .int (pi12.toInt8.toInt32), i0, i0, i0, i0, i0, i0, i0, i0, i0] rfl
  refine oJ 35 12 #[rr pa1, ii 12, rr pa2, ii 11, ii 21, ii 11, ii pi12] X44 d20_32 rfl rfl (by decide) rfl <| oJ 38 12 #[rr pa1, ii 12, rr pa2, ii 12, ii 21, ii 11, ii pi12] X44 d20_35 rfl rfl (by decide) rfl <| oJ 41 12 #[rr pa1, ii 12, rr pa2, ii 12, ii 21, ii 12, ii pi12] X44 d20_38 rfl rfl (by decide) rfl <| og 3 X44 d20_41 (by decide) <| oi 5 X44 d20_3 rfl rfl <| oi 7 X44 d20_5 rfl rfl <| oN 10 X44 d20_7 rfl (tlt (by decide)).2.1 <| oA 11 X44 d20_10 rfl rfl <| oI 12 X44 d20_11 rfl rfl ?_
  have f47 := f43.oth W44 (by omega)
  refine oC 13 (v := (.int pi13)) X44 f47 ⟨by decide, by decide⟩ rfl d20_12 rfl <| oS 15 (l' := #[rr pa1, ii 12, rr pa2, ii 12, ii 21, ii 12, ii pi13]) X44 d20_13 rfl rfl <| oi 17 X44 d20_15 rfl rfl <| o_sipush 20 (v := 255) X44 d20_17 rfl (by decide) <| oY 26 X44 d20_20 (by decide) (flt rg_pi13.2).2.2.2 <| oA 27 X44 d20_26 rfl rfl <| oI 28 X44 d20_27 rfl rfl <| oi 30 X44 d20_28 rfl rfl <| o_i2b 31 (v := (pi13.toInt8.toInt32)) X44 d20_30 rfl rfl ?_
  have f49 := C44.safe (own_lt (by omega)) f45
  refine sB 32 12 (pi13.toInt8.toInt32) X44 V46 (by decide) (lb rfl) (own_narB _) d20_31 rfl (by omega) (Or.inl (by simp)) f49 ?_
  rintro _ _ X48 ⟨_, _, W48⟩ C48 V48
  have := W48.size
  have V50 := V48.as [.int (pi1.toInt8.toInt32), .int (pi2.toInt8.toInt32), .int (pi3.toInt8.toInt32), .int (pi4.toInt8.toInt32), .int (pi5.toInt8.toInt32), .int (pi6.toInt8.toInt32), .int (pi7.toInt8.toInt32), .int (pi8.toInt8.toInt32), .int (pi9.toInt8.toInt32), .int (pi10.toInt8.toInt32), .int (pi11.toInt8.toInt32), .int (pi12.toInt8.toInt32), .int (pi13.toInt8.toInt32), i0, i0, i0, i0, i0, i0, i0, i0] rfl
  refine oJ 35 13 #[rr pa1, ii 13, rr pa2, ii 12, ii 21, ii 12, ii pi13] X48 d20_32 rfl rfl (by decide) rfl <| oJ 38 13 #[rr pa1, ii 13, rr pa2, ii 13, ii 21, ii 12, ii pi13] X48 d20_35 rfl rfl (by decide) rfl <| oJ 41 13 #[rr pa1, ii 13, rr pa2, ii 13, ii 21, ii 13, ii pi13] X48 d20_38 rfl rfl (by decide) rfl <| og 3 X48 d20_41 (by decide) <| oi 5 X48 d20_3 rfl rfl <| oi 7 X48 d20_5 rfl rfl <| oN 10 X48 d20_7 rfl (tlt (by decide)).2.1 <| oA 11 X48 d20_10 rfl rfl <| oI 12 X48 d20_11 rfl rfl ?_
  have f51 := f47.oth W48 (by omega)
  refine oC 13 (v := (.int pi14)) X48 f51 ⟨by decide, by decide⟩ rfl d20_12 rfl <| oS 15 (l' := #[rr pa1, ii 13, rr pa2, ii 13, ii 21, ii 13, ii pi14]) X48 d20_13 rfl rfl <| oi 17 X48 d20_15 rfl rfl <| o_sipush 20 (v := 255) X48 d20_17 rfl (by decide) <| oY 26 X48 d20_20 (by decide) (flt rg_pi14.2).2.2.2 <| oA 27 X48 d20_26 rfl rfl <| oI 28 X48 d20_27 rfl rfl <| oi 30 X48 d20_28 rfl rfl <| o_i2b 31 (v := (pi14.toInt8.toInt32)) X48 d20_30 rfl rfl ?_
  have f53 := C48.safe (own_lt (by omega)) f49
  refine sB 32 13 (pi14.toInt8.toInt32) X48 V50 (by decide) (lb rfl) (own_narB _) d20_31 rfl (by omega) (Or.inl (by simp)) f53 ?_
  rintro _ _ X52 ⟨_, _, W52⟩ C52 V52
  have := W52.size
  have V54 := V52.as [.int (pi1.toInt8.toInt32), .int (pi2.toInt8.toInt32), .int (pi3.toInt8.toInt32), .int (pi4.toInt8.toInt32), .int (pi5.toInt8.toInt32), .int (pi6.toInt8.toInt32), .int (pi7.toInt8.toInt32), .int (pi8.toInt8.toInt32), .int (pi9.toInt8.toInt32), .int (pi10.toInt8.toInt32), .int (pi11.toInt8.toInt32), .int (pi12.toInt8.toInt32), .int (pi13.toInt8.toInt32), .int (pi14.toInt8.toInt32), i0, i0, i0, i0, i0, i0, i0] rfl
  refine oJ 35 14 #[rr pa1, ii 14, rr pa2, ii 13, ii 21, ii 13, ii pi14] X52 d20_32 rfl rfl (by decide) rfl <| oJ 38 14 #[rr pa1, ii 14, rr pa2, ii 14, ii 21, ii 13, ii pi14] X52 d20_35 rfl rfl (by decide) rfl <| oJ 41 14 #[rr pa1, ii 14, rr pa2, ii 14, ii 21, ii 14, ii pi14] X52 d20_38 rfl rfl (by decide) rfl <| og 3 X52 d20_41 (by decide) <| oi 5 X52 d20_3 rfl rfl <| oi 7 X52 d20_5 rfl rfl <| oN 10 X52 d20_7 rfl (tlt (by decide)).2.1 <| oA 11 X52 d20_10 rfl rfl <| oI 12 X52 d20_11 rfl rfl ?_
  have f55 := f51.oth W52 (by omega)
  refine oC 13 (v := (.int pi15)) X52 f55 ⟨by decide, by decide⟩ rfl d20_12 rfl <| oS 15 (l' := #[rr pa1, ii 14, rr pa2, ii 14, ii 21, ii 14, ii pi15]) X52 d20_13 rfl rfl <| oi 17 X52 d20_15 rfl rfl <| o_sipush 20 (v := 255) X52 d20_17 rfl (by decide) <| oY 26 X52 d20_20 (by decide) (flt rg_pi15.2).2.2.2 <| oA 27 X52 d20_26 rfl rfl <| oI 28 X52 d20_27 rfl rfl <| oi 30 X52 d20_28 rfl rfl <| o_i2b 31 (v := (pi15.toInt8.toInt32)) X52 d20_30 rfl rfl ?_
  have f57 := C52.safe (own_lt (by omega)) f53
  refine sB 32 14 (pi15.toInt8.toInt32) X52 V54 (by decide) (lb rfl) (own_narB _) d20_31 rfl (by omega) (Or.inl (by simp)) f57 ?_
  rintro _ _ X56 ⟨_, _, W56⟩ C56 V56
  have := W56.size
  have V58 := V56.as [.int (pi1.toInt8.toInt32), .int (pi2.toInt8.toInt32), .int (pi3.toInt8.toInt32), .int (pi4.toInt8.toInt32), .int (pi5.toInt8.toInt32), .int (pi6.toInt8.toInt32), .int (pi7.toInt8.toInt32), .int (pi8.toInt8.toInt32), .int (pi9.toInt8.toInt32), .int (pi10.toInt8.toInt32), .int (pi11.toInt8.toInt32), .int (pi12.toInt8.toInt32), .int (pi13.toInt8.toInt32), .int (pi14.toInt8.toInt32), .int (pi15.toInt8.toInt32), i0, i0, i0, i0, i0, i0] rfl
  refine oJ 35 15 #[rr pa1, ii 15, rr pa2, ii 14, ii 21, ii 14, ii pi15] X56 d20_32 rfl rfl (by decide) rfl <| oJ 38 15 #[rr pa1, ii 15, rr pa2, ii 15, ii 21, ii 14, ii pi15] X56 d20_35 rfl rfl (by decide) rfl <| oJ 41 15 #[rr pa1, ii 15, rr pa2, ii 15, ii 21, ii 15, ii pi15] X56 d20_38 rfl rfl (by decide) rfl <| og 3 X56 d20_41 (by decide) <| oi 5 X56 d20_3 rfl rfl <| oi 7 X56 d20_5 rfl rfl <| oN 10 X56 d20_7 rfl (tlt (by decide)).2.1 <| oA 11 X56 d20_10 rfl rfl <| oI 12 X56 d20_11 rfl rfl ?_
  have f59 := f55.oth W56 (by omega)
  refine oC 13 (v := (.int pi16)) X56 f59 ⟨by decide, by decide⟩ rfl d20_12 rfl <| oS 15 (l' := #[rr pa1, ii 15, rr pa2, ii 15, ii 21, ii 15, ii pi16]) X56 d20_13 rfl rfl <| oi 17 X56 d20_15 rfl rfl <| o_sipush 20 (v := 255) X56 d20_17 rfl (by decide) <| oY 26 X56 d20_20 (by decide) (flt rg_pi16.2).2.2.2 <| oA 27 X56 d20_26 rfl rfl <| oI 28 X56 d20_27 rfl rfl <| oi 30 X56 d20_28 rfl rfl <| o_i2b 31 (v := (pi16.toInt8.toInt32)) X56 d20_30 rfl rfl ?_
  have f61 := C56.safe (own_lt (by omega)) f57
  refine sB 32 15 (pi16.toInt8.toInt32) X56 V58 (by decide) (lb rfl) (own_narB _) d20_31 rfl (by omega) (Or.inl (by simp)) f61 ?_
  rintro _ _ X60 ⟨_, _, W60⟩ C60 V60
  have := W60.size
  have V62 := V60.as [.int (pi1.toInt8.toInt32), .int (pi2.toInt8.toInt32), .int (pi3.toInt8.toInt32), .int (pi4.toInt8.toInt32), .int (pi5.toInt8.toInt32), .int (pi6.toInt8.toInt32), .int (pi7.toInt8.toInt32), .int (pi8.toInt8.toInt32), .int (pi9.toInt8.toInt32), .int (pi10.toInt8.toInt32), .int (pi11.toInt8.toInt32), .int (pi12.toInt8.toInt32), .int (pi13.toInt8.toInt32), .int (pi14.toInt8.toInt32), .int (pi15.toInt8.toInt32), .int (pi16.toInt8.toInt32), i0, i0, i0, i0, i0] rfl
  refine oJ 35 16 #[rr pa1, ii 16, rr pa2, ii 15, ii 21, ii 15, ii pi16] X60 d20_32 rfl rfl (by decide) rfl <| oJ 38 16 #[rr pa1, ii 16, rr pa2, ii 16, ii 21, ii 15, ii pi16] X60 d20_35 rfl rfl (by decide) rfl <| oJ 41 16 #[rr pa1, ii 16, rr pa2, ii 16, ii 21, ii 16, ii pi16] X60 d20_38 rfl rfl (by decide) rfl <| og 3 X60 d20_41 (by decide) <| oi 5 X60 d20_3 rfl rfl <| oi 7 X60 d20_5 rfl rfl <| oN 10 X60 d20_7 rfl (tlt (by decide)).2.1 <| oA 11 X60 d20_10 rfl rfl <| oI 12 X60 d20_11 rfl rfl ?_
  have f63 := f59.oth W60 (by omega)
  refine oC 13 (v := (.int pi17)) X60 f63 ⟨by decide, by decide⟩ rfl d20_12 rfl <| oS 15 (l' := #[rr pa1, ii 16, rr pa2, ii 16, ii 21, ii 16, ii pi17]) X60 d20_13 rfl rfl <| oi 17 X60 d20_15 rfl rfl <| o_sipush 20 (v := 255) X60 d20_17 rfl (by decide) <| oY 26 X60 d20_20 (by decide) (flt rg_pi17.2).2.2.2 <| oA 27 X60 d20_26 rfl rfl <| oI 28 X60 d20_27 rfl rfl <| oi 30 X60 d20_28 rfl rfl <| o_i2b 31 (v := (pi17.toInt8.toInt32)) X60 d20_30 rfl rfl ?_
  have f65 := C60.safe (own_lt (by omega)) f61
  refine sB 32 16 (pi17.toInt8.toInt32) X60 V62 (by decide) (lb rfl) (own_narB _) d20_31 rfl (by omega) (Or.inl (by simp)) f65 ?_
  rintro _ _ X64 ⟨_, _, W64⟩ C64 V64
  have := W64.size
  have V66 := V64.as [.int (pi1.toInt8.toInt32), .int (pi2.toInt8.toInt32), .int (pi3.toInt8.toInt32), .int (pi4.toInt8.toInt32), .int (pi5.toInt8.toInt32), .int (pi6.toInt8.toInt32), .int (pi7.toInt8.toInt32), .int (pi8.toInt8.toInt32), .int (pi9.toInt8.toInt32), .int (pi10.toInt8.toInt32), .int (pi11.toInt8.toInt32), .int (pi12.toInt8.toInt32), .int (pi13.toInt8.toInt32), .int (pi14.toInt8.toInt32), .int (pi15.toInt8.toInt32), .int (pi16.toInt8.toInt32), .int (pi17.toInt8.toInt32), i0, i0, i0, i0] rfl
  refine oJ 35 17 #[rr pa1, ii 17, rr pa2, ii 16, ii 21, ii 16, ii pi17] X64 d20_32 rfl rfl (by decide) rfl <| oJ 38 17 #[rr pa1, ii 17, rr pa2, ii 17, ii 21, ii 16, ii pi17] X64 d20_35 rfl rfl (by decide) rfl <| oJ 41 17 #[rr pa1, ii 17, rr pa2, ii 17, ii 21, ii 17, ii pi17] X64 d20_38 rfl rfl (by decide) rfl <| og 3 X64 d20_41 (by decide) <| oi 5 X64 d20_3 rfl rfl <| oi 7 X64 d20_5 rfl rfl <| oN 10 X64 d20_7 rfl (tlt (by decide)).2.1 <| oA 11 X64 d20_10 rfl rfl <| oI 12 X64 d20_11 rfl rfl ?_
  have f67 := f63.oth W64 (by omega)
  refine oC 13 (v := (.int pi18)) X64 f67 ⟨by decide, by decide⟩ rfl d20_12 rfl <| oS 15 (l' := #[rr pa1, ii 17, rr pa2, ii 17, ii 21, ii 17, ii pi18]) X64 d20_13 rfl rfl <| oi 17 X64 d20_15 rfl rfl <| o_sipush 20 (v := 255) X64 d20_17 rfl (by decide) <| oY 26 X64 d20_20 (by decide) (flt rg_pi18.2).2.2.2 <| oA 27 X64 d20_26 rfl rfl <| oI 28 X64 d20_27 rfl rfl <| oi 30 X64 d20_28 rfl rfl <| o_i2b 31 (v := (pi18.toInt8.toInt32)) X64 d20_30 rfl rfl ?_
  have f69 := C64.safe (own_lt (by omega)) f65
  refine sB 32 17 (pi18.toInt8.toInt32) X64 V66 (by decide) (lb rfl) (own_narB _) d20_31 rfl (by omega) (Or.inl (by simp)) f69 ?_
  rintro _ _ X68 ⟨_, _, W68⟩ C68 V68
  have := W68.size
  have V70 := V68.as [.int (pi1.toInt8.toInt32), .int (pi2.toInt8.toInt32), .int (pi3.toInt8.toInt32), .int (pi4.toInt8.toInt32), .int (pi5.toInt8.toInt32), .int (pi6.toInt8.toInt32), .int (pi7.toInt8.toInt32), .int (pi8.toInt8.toInt32), .int (pi9.toInt8.toInt32), .int (pi10.toInt8.toInt32), .int (pi11.toInt8.toInt32), .int (pi12.toInt8.toInt32), .int (pi13.toInt8.toInt32), .int (pi14.toInt8.toInt32), .int (pi15.toInt8.toInt32), .int (pi16.toInt8.toInt32), .int (pi17.toInt8.toInt32), .int (pi18.toInt8.toInt32), i0, i0, i0] rfl
  refine oJ 35 18 #[rr pa1, ii 18, rr pa2, ii 17, ii 21, ii 17, ii pi18] X68 d20_32 rfl rfl (by decide) rfl <| oJ 38 18 #[rr pa1, ii 18, rr pa2, ii 18, ii 21, ii 17, ii pi18] X68 d20_35 rfl rfl (by decide) rfl <| oJ 41 18 #[rr pa1, ii 18, rr pa2, ii 18, ii 21, ii 18, ii pi18] X68 d20_38 rfl rfl (by decide) rfl <| og 3 X68 d20_41 (by decide) <| oi 5 X68 d20_3 rfl rfl <| oi 7 X68 d20_5 rfl rfl <| oN 10 X68 d20_7 rfl (tlt (by decide)).2.1 <| oA 11 X68 d20_10 rfl rfl <| oI 12 X68 d20_11 rfl rfl ?_
  have f71 := f67.oth W68 (by omega)
  refine oC 13 (v := (.int pi19)) X68 f71 ⟨by decide, by decide⟩ rfl d20_12 rfl <| oS 15 (l' := #[rr pa1, ii 18, rr pa2, ii 18, ii 21, ii 18, ii pi19]) X68 d20_13 rfl rfl <| oi 17 X68 d20_15 rfl rfl <| o_sipush 20 (v := 255) X68 d20_17 rfl (by decide) <| oY 26 X68 d20_20 (by decide) (flt rg_pi19.2).2.2.2 <| oA 27 X68 d20_26 rfl rfl <| oI 28 X68 d20_27 rfl rfl <| oi 30 X68 d20_28 rfl rfl <| o_i2b 31 (v := (pi19.toInt8.toInt32)) X68 d20_30 rfl rfl ?_
  have f73 := C68.safe (own_lt (by omega)) f69
  refine sB 32 18 (pi19.toInt8.toInt32) X68 V70 (by decide) (lb rfl) (own_narB _) d20_31 rfl (by omega) (Or.inl (by simp)) f73 ?_
  rintro _ _ X72 ⟨_, _, W72⟩ C72 V72
  have := W72.size
  have V74 := V72.as [.int (pi1.toInt8.toInt32), .int (pi2.toInt8.toInt32), .int (pi3.toInt8.toInt32), .int (pi4.toInt8.toInt32), .int (pi5.toInt8.toInt32), .int (pi6.toInt8.toInt32), .int (pi7.toInt8.toInt32), .int (pi8.toInt8.toInt32), .int (pi9.toInt8.toInt32), .int (pi10.toInt8.toInt32), .int (pi11.toInt8.toInt32), .int (pi12.toInt8.toInt32), .int (pi13.toInt8.toInt32), .int (pi14.toInt8.toInt32), .int (pi15.toInt8.toInt32), .int (pi16.toInt8.toInt32), .int (pi17.toInt8.toInt32), .int (pi18.toInt8.toInt32), .int (pi19.toInt8.toInt32), i0, i0] rfl
  refine oJ 35 19 #[rr pa1, ii 19, rr pa2, ii 18, ii 21, ii 18, ii pi19] X72 d20_32 rfl rfl (by decide) rfl <| oJ 38 19 #[rr pa1, ii 19, rr pa2, ii 19, ii 21, ii 18, ii pi19] X72 d20_35 rfl rfl (by decide) rfl <| oJ 41 19 #[rr pa1, ii 19, rr pa2, ii 19, ii 21, ii 19, ii pi19] X72 d20_38 rfl rfl (by decide) rfl <| og 3 X72 d20_41 (by decide) <| oi 5 X72 d20_3 rfl rfl <| oi 7 X72 d20_5 rfl rfl <| oN 10 X72 d20_7 rfl (tlt (by decide)).2.1 <| oA 11 X72 d20_10 rfl rfl <| oI 12 X72 d20_11 rfl rfl ?_
  have f75 := f71.oth W72 (by omega)
  refine oC 13 (v := (.int pi20)) X72 f75 ⟨by decide, by decide⟩ rfl d20_12 rfl <| oS 15 (l' := #[rr pa1, ii 19, rr pa2, ii 19, ii 21, ii 19, ii pi20]) X72 d20_13 rfl rfl <| oi 17 X72 d20_15 rfl rfl <| o_sipush 20 (v := 255) X72 d20_17 rfl (by decide) <| oY 26 X72 d20_20 (by decide) (flt rg_pi20.2).2.2.2 <| oA 27 X72 d20_26 rfl rfl <| oI 28 X72 d20_27 rfl rfl <| oi 30 X72 d20_28 rfl rfl <| o_i2b 31 (v := (pi20.toInt8.toInt32)) X72 d20_30 rfl rfl ?_
  have f77 := C72.safe (own_lt (by omega)) f73
  refine sB 32 19 (pi20.toInt8.toInt32) X72 V74 (by decide) (lb rfl) (own_narB _) d20_31 rfl (by omega) (Or.inl (by simp)) f77 ?_
  rintro _ _ X76 ⟨_, _, W76⟩ C76 V76
  have := W76.size
  have V78 := V76.as [.int (pi1.toInt8.toInt32), .int (pi2.toInt8.toInt32), .int (pi3.toInt8.toInt32), .int (pi4.toInt8.toInt32), .int (pi5.toInt8.toInt32), .int (pi6.toInt8.toInt32), .int (pi7.toInt8.toInt32), .int (pi8.toInt8.toInt32), .int (pi9.toInt8.toInt32), .int (pi10.toInt8.toInt32), .int (pi11.toInt8.toInt32), .int (pi12.toInt8.toInt32), .int (pi13.toInt8.toInt32), .int (pi14.toInt8.toInt32), .int (pi15.toInt8.toInt32), .int (pi16.toInt8.toInt32), .int (pi17.toInt8.toInt32), .int (pi18.toInt8.toInt32), .int (pi19.toInt8.toInt32), .int (pi20.toInt8.toInt32), i0] rfl
  refine oJ 35 20 #[rr pa1, ii 20, rr pa2, ii 19, ii 21, ii 19, ii pi20] X76 d20_32 rfl rfl (by decide) rfl <| oJ 38 20 #[rr pa1, ii 20, rr pa2, ii 20, ii 21, ii 19, ii pi20] X76 d20_35 rfl rfl (by decide) rfl <| oJ 41 20 #[rr pa1, ii 20, rr pa2, ii 20, ii 21, ii 20, ii pi20] X76 d20_38 rfl rfl (by decide) rfl <| og 3 X76 d20_41 (by decide) <| oi 5 X76 d20_3 rfl rfl <| oi 7 X76 d20_5 rfl rfl <| oN 10 X76 d20_7 rfl (tlt (by decide)).2.1 <| oA 11 X76 d20_10 rfl rfl <| oI 12 X76 d20_11 rfl rfl ?_
  have f79 := f75.oth W76 (by omega)
  refine oC 13 (v := (.int pi21)) X76 f79 ⟨by decide, by decide⟩ rfl d20_12 rfl <| oS 15 (l' := #[rr pa1, ii 20, rr pa2, ii 20, ii 21, ii 20, ii pi21]) X76 d20_13 rfl rfl <| oi 17 X76 d20_15 rfl rfl <| o_sipush 20 (v := 255) X76 d20_17 rfl (by decide) <| oY 26 X76 d20_20 (by decide) (flt rg_pi21.2).2.2.2 <| oA 27 X76 d20_26 rfl rfl <| oI 28 X76 d20_27 rfl rfl <| oi 30 X76 d20_28 rfl rfl <| o_i2b 31 (v := (pi21.toInt8.toInt32)) X76 d20_30 rfl rfl ?_
  have f81 := C76.safe (own_lt (by omega)) f77
  refine sB 32 20 (pi21.toInt8.toInt32) X76 V78 (by decide) (lb rfl) (own_narB _) d20_31 rfl (by omega) (Or.inl (by simp)) f81 ?_
  rintro _ _ X80 ⟨_, _, W80⟩ _ V80
  have := W80.size
  have V82 := V80.as [.int (pi1.toInt8.toInt32), .int (pi2.toInt8.toInt32), .int (pi3.toInt8.toInt32), .int (pi4.toInt8.toInt32), .int (pi5.toInt8.toInt32), .int (pi6.toInt8.toInt32), .int (pi7.toInt8.toInt32), .int (pi8.toInt8.toInt32), .int (pi9.toInt8.toInt32), .int (pi10.toInt8.toInt32), .int (pi11.toInt8.toInt32), .int (pi12.toInt8.toInt32), .int (pi13.toInt8.toInt32), .int (pi14.toInt8.toInt32), .int (pi15.toInt8.toInt32), .int (pi16.toInt8.toInt32), .int (pi17.toInt8.toInt32), .int (pi18.toInt8.toInt32), .int (pi19.toInt8.toInt32), .int (pi20.toInt8.toInt32), .int (pi21.toInt8.toInt32)] rfl
  refine oJ 35 21 #[rr pa1, ii 21, rr pa2, ii 20, ii 21, ii 20, ii pi21] X80 d20_32 rfl rfl (by decide) rfl <| oJ 38 21 #[rr pa1, ii 21, rr pa2, ii 21, ii 21, ii 20, ii pi21] X80 d20_35 rfl rfl (by decide) rfl <| oJ 41 21 #[rr pa1, ii 21, rr pa2, ii 21, ii 21, ii 21, ii pi21] X80 d20_38 rfl rfl (by decide) rfl <| og 3 X80 d20_41 (by decide) <| oi 5 X80 d20_3 rfl rfl <| oi 7 X80 d20_5 rfl rfl <| oY 44 X80 d20_7 (by decide) (flt (by decide)).2.1 <| oi 46 X80 d20_44 rfl rfl ?_
  have f83 := ((((((((((((((((((((F2.wr W1).wr W4).wr W8).wr W12).wr W16).wr W20).wr W24).wr W28).wr W32).wr W36).wr W40).wr W44).wr W48).wr W52).wr W56).wr W60).wr W64).wr W68).wr W72).wr W76).wr W80
  exact o_iret X80 d20_46 rfl (by decide) (by decide) (fun _ CC => ⟨rfl, V82, f83⟩)
def Q39 (Z : State) (b1 b2 b3 b4 b5 b6 b7 b8 b9 b10 b11 b12 b13 b14 b15 b16 b17 b18 b19 b20 b21 : Int32) (h0 : Heap) (v : Option Value) (h : Heap) (vm : Vm) : Prop := ∃ (xa1 : Addr) (xk1 : ClassId), v = some (.ref xa1) ∧ av0 Z h xa1 xk1 21 [.int (b1.toInt8.toInt32), .int (b2.toInt8.toInt32), .int (b3.toInt8.toInt32), .int (b4.toInt8.toInt32), .int (b5.toInt8.toInt32), .int (b6.toInt8.toInt32), .int (b7.toInt8.toInt32), .int (b8.toInt8.toInt32), .int (b9.toInt8.toInt32), .int (b10.toInt8.toInt32), .int (b11.toInt8.toInt32), .int (b12.toInt8.toInt32), .int (b13.toInt8.toInt32), .int (b14.toInt8.toInt32), .int (b15.toInt8.toInt32), .int (b16.toInt8.toInt32), .int (b17.toInt8.toInt32), .int (b18.toInt8.toInt32), .int (b19.toInt8.toInt32), .int (b20.toInt8.toInt32), .int (b21.toInt8.toInt32)] ∧ ex3 Z h xa1 ∧ Safe Z EL0 vm h xa1 ∧ h0.size ≤ xa1 ∧ h.size > xa1
theorem rm_au85 (F0 : av1 Z h0 pa1 pk1 21 [.int pi1, .int pi2, .int pi3, .int pi4, .int pi5, .int pi6, .int pi7, .int pi8, .int pi9, .int pi10, .int pi11, .int pi12, .int pi13, .int pi14, .int pi15, .int pi16, .int pi17, .int pi18, .int pi19, .int pi20, .int pi21]) (rg_pi1 : ¬ pi1 < 0 ∧ ¬ (255 : Int32) < pi1) (rg_pi2 : ¬ pi2 < 0 ∧ ¬ (255 : Int32) < pi2) (rg_pi3 : ¬ pi3 < 0 ∧ ¬ (255 : Int32) < pi3) (rg_pi4 : ¬ pi4 < 0 ∧ ¬ (255 : Int32) < pi4) (rg_pi5 : ¬ pi5 < 0 ∧ ¬ (255 : Int32) < pi5) (rg_pi6 : ¬ pi6 < 0 ∧ ¬ (255 : Int32) < pi6) (rg_pi7 : ¬ pi7 < 0 ∧ ¬ (255 : Int32) < pi7) (rg_pi8 : ¬ pi8 < 0 ∧ ¬ (255 : Int32) < pi8) (rg_pi9 : ¬ pi9 < 0 ∧ ¬ (255 : Int32) < pi9) (rg_pi10 : ¬ pi10 < 0 ∧ ¬ (255 : Int32) < pi10) (rg_pi11 : ¬ pi11 < 0 ∧ ¬ (255 : Int32) < pi11) (rg_pi12 : ¬ pi12 < 0 ∧ ¬ (255 : Int32) < pi12) (rg_pi13 : ¬ pi13 < 0 ∧ ¬ (255 : Int32) < pi13) (rg_pi14 : ¬ pi14 < 0 ∧ ¬ (255 : Int32) < pi14) (rg_pi15 : ¬ pi15 < 0 ∧ ¬ (255 : Int32) < pi15) (rg_pi16 : ¬ pi16 < 0 ∧ ¬ (255 : Int32) < pi16) (rg_pi17 : ¬ pi17 < 0 ∧ ¬ (255 : Int32) < pi17) (rg_pi18 : ¬ pi18 < 0 ∧ ¬ (255 : Int32) < pi18) (rg_pi19 : ¬ pi19 < 0 ∧ ¬ (255 : Int32) < pi19) (rg_pi20 : ¬ pi20 < 0 ∧ ¬ (255 : Int32) < pi20) (rg_pi21 : ¬ pi21 < 0 ∧ ¬ (255 : Int32) < pi21) : M19 G 1 1 21 18 #[.ref pa1, i0, .int 21] h0 n0 [] [] (Q39 Z pi1 pi2 pi3 pi4 pi5 pi6 pi7 pi8 pi9 pi10 pi11 pi12 pi13 pi14 pi15 pi16 pi17 pi18 pi19 pi20 pi21 h0) := by
  refine mi B19 ef13 (hEW G) fun s X0 hsf0 n0le => ?_
  have l1 := F0.l
  refine oI 1 X0 d19_0 rfl rfl <| nP (aty := .byte) 3 21 X0 (w3 G) d19_1 rfl (by decide) had_byte ?_
  intro _ h1 b1 k1 X1 _ l1 E1 V1 A1 _ S1
  have V2 : av0 Z h1 b1 k1 21 [i0, i0, i0, i0, i0, i0, i0, i0, i0, i0, i0, i0, i0, i0, i0, i0, i0, i0, i0, i0, i0] := V1.pad (pad_rep [] (.int (0 : Int32)) 21)
  refine oV 4 (l' := #[rr pa1, ii 0, ii 21, rr b1, uu, uu]) X1 d19_3 rfl rfl rfl <| oA 5 X1 d19_4 rfl rfl <| oI 6 X1 d19_5 rfl rfl <| oA 7 X1 d19_6 rfl rfl <| oc 8 (v := 0) X1 d19_7 rfl (by decide) <| oI 9 X1 d19_8 rfl rfl ?_
  have f3 := F0.ext E1
  refine mS 12 0 X1 (rm_au84 G f3 V2 A1 rg_pi1 rg_pi2 rg_pi3 rg_pi4 rg_pi5 rg_pi6 rg_pi7 rg_pi8 rg_pi9 rg_pi10 rg_pi11 rg_pi12 rg_pi13 rg_pi14 rg_pi15 rg_pi16 rg_pi17 rg_pi18 rg_pi19 rg_pi20 rg_pi21 (by omega)) (u17 G) (sS (by omega) S1 all0) d19_9 rfl rfl rfl lr (by decide) (aR (by omega) all0) ?_
  rintro _ _ _ _ X4 ⟨rfl, q5, q6⟩ _ _ C4
  refine oS 14 (l' := #[rr pa1, ii 0, ii 21, rr b1, ii 21, uu]) X4 d19_12 rfl rfl <| oi 16 X4 d19_14 rfl rfl <| oI 17 X4 d19_16 rfl rfl <| oY 57 X4 d19_17 (by decide) (teq (by decide)).1 <| oA 58 X4 d19_57 rfl rfl ?_
  have f7 := C4.safe (own_lt (by omega)) S1
  exact oR X4 d19_58 rfl rfl rfl (by decide) (by decide) (fun _ CC => ⟨b1, k1, rfl, q5, q6, (CC.safe (own_lt (by omega)) f7), by omega⟩)
theorem rm_au86 (F0 : av0 Z h0 pa1 pk1 21 ps_pa1) : M21 G 0 0 0 0 #[.ref pa1, .int 21] h0 n0 [] [] (Q4 Z  h0) := by
  refine mi B21 ef0 (hEW G) fun s X0 hsf0 n0le => ?_
  have := F0.l
  refine oI 1 X0 d21_0 rfl rfl <| oA 2 X0 d21_1 rfl rfl <| oL 3 X0 F0 d21_2 rfl <| o_isub 4 (v := 0) X0 d21_3 rfl (by decide) <| ob 6 (v := 31) X0 d21_4 rfl (by decide) <| o_iushr 7 (v := 0) X0 d21_6 rfl (by decide) <| o_i2b 8 (v := 0) X0 d21_7 rfl (by decide) ?_
  exact o_nret (y := (0 : Int32)) (t := .byte) X0 d21_8 rfl (by decide) (by simp) (by decide) (by decide) (fun _ CC => rfl)
def Q40 (Z : State) (b1 : Addr) (b2 b3 b4 b5 b6 b7 b8 b9 b10 b11 b12 b13 b14 b15 b16 b17 b18 b19 b20 b21 b22 : Int32) (h0 : Heap) (v : Option Value) (h : Heap) (vm : Vm) : Prop := ∃ (xa1 : Addr) (xk1 : ClassId), v = none ∧ ex0 Z h b1 ∧ fd0 Z h b1 (.int 0) ∧ fd1 Z h b1 (.ref xa1) ∧ av0 Z h xa1 xk1 21 [.int (b2.toInt8.toInt32), .int (b3.toInt8.toInt32), .int (b4.toInt8.toInt32), .int (b5.toInt8.toInt32), .int (b6.toInt8.toInt32), .int (b7.toInt8.toInt32), .int (b8.toInt8.toInt32), .int (b9.toInt8.toInt32), .int (b10.toInt8.toInt32), .int (b11.toInt8.toInt32), .int (b12.toInt8.toInt32), .int (b13.toInt8.toInt32), .int (b14.toInt8.toInt32), .int (b15.toInt8.toInt32), .int (b16.toInt8.toInt32), .int (b17.toInt8.toInt32), .int (b18.toInt8.toInt32), .int (b19.toInt8.toInt32), .int (b20.toInt8.toInt32), .int (b21.toInt8.toInt32), .int (b22.toInt8.toInt32)] ∧ ex3 Z h xa1 ∧ Safe Z EL0 vm h xa1 ∧ h0.size ≤ xa1 ∧ h.size > xa1
theorem rm_au87 (F0 : ex0 Z h0 pa1) (F1 : fd0 Z h0 pa1 (.int pi1)) (F2 : fd1 Z h0 pa1 .null) (F3 : av1 Z h0 pa2 pk1 21 [.int pi2, .int pi3, .int pi4, .int pi5, .int pi6, .int pi7, .int pi8, .int pi9, .int pi10, .int pi11, .int pi12, .int pi13, .int pi14, .int pi15, .int pi16, .int pi17, .int pi18, .int pi19, .int pi20, .int pi21, .int pi22]) (rg_pi2 : ¬ pi2 < 0 ∧ ¬ (255 : Int32) < pi2) (rg_pi3 : ¬ pi3 < 0 ∧ ¬ (255 : Int32) < pi3) (rg_pi4 : ¬ pi4 < 0 ∧ ¬ (255 : Int32) < pi4) (rg_pi5 : ¬ pi5 < 0 ∧ ¬ (255 : Int32) < pi5) (rg_pi6 : ¬ pi6 < 0 ∧ ¬ (255 : Int32) < pi6) (rg_pi7 : ¬ pi7 < 0 ∧ ¬ (255 : Int32) < pi7) (rg_pi8 : ¬ pi8 < 0 ∧ ¬ (255 : Int32) < pi8) (rg_pi9 : ¬ pi9 < 0 ∧ ¬ (255 : Int32) < pi9) (rg_pi10 : ¬ pi10 < 0 ∧ ¬ (255 : Int32) < pi10) (rg_pi11 : ¬ pi11 < 0 ∧ ¬ (255 : Int32) < pi11) (rg_pi12 : ¬ pi12 < 0 ∧ ¬ (255 : Int32) < pi12) (rg_pi13 : ¬ pi13 < 0 ∧ ¬ (255 : Int32) < pi13) (rg_pi14 : ¬ pi14 < 0 ∧ ¬ (255 : Int32) < pi14) (rg_pi15 : ¬ pi15 < 0 ∧ ¬ (255 : Int32) < pi15) (rg_pi16 : ¬ pi16 < 0 ∧ ¬ (255 : Int32) < pi16) (rg_pi17 : ¬ pi17 < 0 ∧ ¬ (255 : Int32) < pi17) (rg_pi18 : ¬ pi18 < 0 ∧ ¬ (255 : Int32) < pi18) (rg_pi19 : ¬ pi19 < 0 ∧ ¬ (255 : Int32) < pi19) (rg_pi20 : ¬ pi20 < 0 ∧ ¬ (255 : Int32) < pi20) (rg_pi21 : ¬ pi21 < 0 ∧ ¬ (255 : Int32) < pi21) (rg_pi22 : ¬ pi22 < 0 ∧ ¬ (255 : Int32) < pi22) (ne : NE pa1 pa2 ∧ n0 ≤ pa1) : M18 G 2 1 21 35 #[.ref pa1, .ref pa2, i0, .int 21, .null] h0 n0 [pa1] [pa1] (Q40 Z pa1 pi2 pi3 pi4 pi5 pi6 pi7 pi8 pi9 pi10 pi11 pi12 pi13 pi14 pi15 pi16 pi17 pi18 pi19 pi20 pi21 pi22 h0) := by
  refine mi B18 ef12 (hEW G) fun s X0 hsf0 n0le => ?_
  have := F0.l
  have := F3.l
  have sf_pa1 := hsf0 pa1 (by simp)
  refine oA 1 X0 d18_0 rfl rfl <| o_initO 4 (W := 0) X0 (w60 G) (w61 G) (w62 G) rfl (by decide) (Nat.le_of_eq rfl) (by decide) d18_1 rfl ?_
  intro _ X2
  refine oI 5 X2 d18_4 rfl rfl <| oy 27 X2 d18_5 (by decide) ((if0 _ _).trans (feq (by decide)).2) <| oG 30 X2 (w25 G) Via.refl ((sg15 G).ext X2.old.2) d18_27 rfl ?_
  intro _ X4
  refine on 33 X4 d18_30 rfl ((if0 _ _).trans (feq (hzc G)).1) <| oA 34 X4 d18_33 rfl rfl <| oI 35 X4 d18_34 rfl rfl <| oI 36 X4 d18_35 rfl rfl <| mS 39 0 X4 (rm_au85 G F3 rg_pi2 rg_pi3 rg_pi4 rg_pi5 rg_pi6 rg_pi7 rg_pi8 rg_pi9 rg_pi10 rg_pi11 rg_pi12 rg_pi13 rg_pi14 rg_pi15 rg_pi16 rg_pi17 rg_pi18 rg_pi19 rg_pi20 rg_pi21 rg_pi22) (u18 G) all0 d18_36 rfl rfl rfl lr (by decide) all0 ?_
  rintro _ _ _ _ X5 ⟨xa1_6, xk1_7, rfl, q8, q9, q10, _⟩ K5 _ C5
  refine oU 41 (l' := #[rr pa1, rr pa2, ii 0, ii 21, .val .null, rr xa1_6]) X5 d18_39 rfl rfl rfl <| oA 42 X5 d18_41 rfl rfl <| oa 44 X5 d18_42 rfl rfl <| oI 45 X5 d18_44 rfl rfl <| mS 48 1 X5 (rm_au86 G q8) (u19 G) all0 d18_45 rfl rfl rfl lr (by decide) all0 ?_
  rintro _ _ _ _ X12 rfl K12 _ C12
  have f13 := (F1.k0 K5).k0 K12
  have f14 := (F0.keep K5).keep K12
  have f16 := C12.safe (own_lt (by omega)) (C5.safe (own_lt (by omega)) sf_pa1)
  refine oP 51 (v' := (.int 0)) X12 (w26 G) Via.refl f13 f14 (Or.inr ⟨(w5 G), rfl, rfl⟩) (w2 G) fd_1 rfl rfl d18_48 rfl (by omega) (Or.inl (by simp)) f16 ?_
  intro _ _ X15 W15 C15
  have := W15.size
  have f17 := f13.same W15
  refine oA 52 X15 d18_51 rfl rfl <| oa 54 X15 d18_52 rfl rfl ?_
  have f18 := ((F2.k0 K5).k0 K12).other W15 (Or.inr (sn0 G))
  have f19 := f14.wr W15
  have f21 := C15.safe (own_lt (by omega)) f16
  refine oP 57 (v' := (.ref xa1_6)) X15 (w19 G) Via.refl f18 f19 (Or.inr ⟨(w4 G), rfl, rfl⟩) (w2 G) fd_0 rfl rfl d18_54 rfl (by omega) (Or.inl (by simp)) f21 ?_
  intro _ _ X20 W20 C20
  have := W20.size
  have f22 := f18.same W20
  have f23 := f19.wr W20
  have f24 := f17.other W20 (Or.inr (sn1 G))
  have f25 := ((q8.k0 K12).oth W15 (by omega)).oth W20 (by omega)
  have f26 := ((q9.keep K12).wr W15).wr W20
  have f27 := C20.safe (own_lt (by omega)) (C15.safe (own_lt (by omega)) (C12.safe (own_lt (by omega)) q10))
  exact oz X20 d18_57 rfl (by decide) (by decide) (fun _ CC => ⟨xa1_6, xk1_7, rfl, f23, f24, f22, f25, f26, (CC.safe (own_lt (by omega)) f27), by omega⟩)
theorem rm_au88 (F0 : ex0 Z h0 pa1) (F1 : fd0 Z h0 pa1 (.int pi100)) (F2 : fd1 Z h0 pa1 .null) (F3 : av1 Z h0 pa2 pk1 21 [.int pi1, .int pi2, .int pi3, .int pi4, .int pi5, .int pi6, .int pi7, .int pi8, .int pi9, .int pi10, .int pi11, .int pi12, .int pi13, .int pi14, .int pi15, .int pi16, .int pi17, .int pi18, .int pi19, .int pi20, .int pi21]) (rg_pi1 : ¬ pi1 < 0 ∧ ¬ (255 : Int32) < pi1) (rg_pi2 : ¬ pi2 < 0 ∧ ¬ (255 : Int32) < pi2) (rg_pi3 : ¬ pi3 < 0 ∧ ¬ (255 : Int32) < pi3) (rg_pi4 : ¬ pi4 < 0 ∧ ¬ (255 : Int32) < pi4) (rg_pi5 : ¬ pi5 < 0 ∧ ¬ (255 : Int32) < pi5) (rg_pi6 : ¬ pi6 < 0 ∧ ¬ (255 : Int32) < pi6) (rg_pi7 : ¬ pi7 < 0 ∧ ¬ (255 : Int32) < pi7) (rg_pi8 : ¬ pi8 < 0 ∧ ¬ (255 : Int32) < pi8) (rg_pi9 : ¬ pi9 < 0 ∧ ¬ (255 : Int32) < pi9) (rg_pi10 : ¬ pi10 < 0 ∧ ¬ (255 : Int32) < pi10) (rg_pi11 : ¬ pi11 < 0 ∧ ¬ (255 : Int32) < pi11) (rg_pi12 : ¬ pi12 < 0 ∧ ¬ (255 : Int32) < pi12) (rg_pi13 : ¬ pi13 < 0 ∧ ¬ (255 : Int32) < pi13) (rg_pi14 : ¬ pi14 < 0 ∧ ¬ (255 : Int32) < pi14) (rg_pi15 : ¬ pi15 < 0 ∧ ¬ (255 : Int32) < pi15) (rg_pi16 : ¬ pi16 < 0 ∧ ¬ (255 : Int32) < pi16) (rg_pi17 : ¬ pi17 < 0 ∧ ¬ (255 : Int32) < pi17) (rg_pi18 : ¬ pi18 < 0 ∧ ¬ (255 : Int32) < pi18) (rg_pi19 : ¬ pi19 < 0 ∧ ¬ (255 : Int32) < pi19) (rg_pi20 : ¬ pi20 < 0 ∧ ¬ (255 : Int32) < pi20) (rg_pi21 : ¬ pi21 < 0 ∧ ¬ (255 : Int32) < pi21) (ne : NE pa1 pa2 ∧ n0 ≤ pa1) : M17 G 3 1 21 52 #[.ref pa1, .ref pa2] h0 n0 [pa1] [pa1] (Q40 Z pa1 pi1 pi2 pi3 pi4 pi5 pi6 pi7 pi8 pi9 pi10 pi11 pi12 pi13 pi14 pi15 pi16 pi17 pi18 pi19 pi20 pi21 h0) := by
  refine mi B17 ef11 (hEW G) fun s X0 hsf0 n0le => ?_
  have := F0.l
  have := F3.l
  have sf_pa1 := hsf0 pa1 (by simp)
  refine oA 1 X0 d17_0 rfl rfl <| oA 2 X0 d17_1 rfl rfl <| oc 3 (v := 0) X0 d17_2 rfl (by decide) <| oA 4 X0 d17_3 rfl rfl <| oL 5 X0 F3 d17_4 rfl <| o_aconstNull 6 X0 d17_5 rfl <| mP 9 0 X0 (rm_au87 G F0 F1 F2 F3 rg_pi1 rg_pi2 rg_pi3 rg_pi4 rg_pi5 rg_pi6 rg_pi7 rg_pi8 rg_pi9 rg_pi10 rg_pi11 rg_pi12 rg_pi13 rg_pi14 rg_pi15 rg_pi16 rg_pi17 rg_pi18 rg_pi19 rg_pi20 rg_pi21 (by omega)) (u20 G) (sS (by omega) sf_pa1 all0) d17_6 rfl rfl rfl lr (by decide) (aI (by omega) (by simp) all0) ?_
  rintro _ _ _ _ X1 ⟨xa1_2, xk1_3, rfl, q4, q5, q6, q7, q8, q9, _⟩ _ _ _
  exact oz X1 d17_9 rfl (by decide) (by decide) (fun _ CC => ⟨xa1_2, xk1_3, rfl, q4, q5, q6, q7, q8, (CC.safe (own_lt (by omega)) q9), by omega⟩)
def Q41 (Z : State) (b1 b2 b3 b4 b5 b6 b7 b8 b9 b10 b11 b12 b13 b14 b15 b16 b17 b18 b19 b20 b21 : Int32) (h0 : Heap) (v : Option Value) (h : Heap) (vm : Vm) : Prop := ∃ (xa1 : Addr) (xa2 : Addr) (xk1 : ClassId), v = some (.ref xa1) ∧ ex0 Z h xa1 ∧ fd0 Z h xa1 (.int 0) ∧ fd1 Z h xa1 (.ref xa2) ∧ Safe Z EL0 vm h xa1 ∧ av0 Z h xa2 xk1 21 [.int (b1.toInt8.toInt32), .int (b2.toInt8.toInt32), .int (b3.toInt8.toInt32), .int (b4.toInt8.toInt32), .int (b5.toInt8.toInt32), .int (b6.toInt8.toInt32), .int (b7.toInt8.toInt32), .int (b8.toInt8.toInt32), .int (b9.toInt8.toInt32), .int (b10.toInt8.toInt32), .int (b11.toInt8.toInt32), .int (b12.toInt8.toInt32), .int (b13.toInt8.toInt32), .int (b14.toInt8.toInt32), .int (b15.toInt8.toInt32), .int (b16.toInt8.toInt32), .int (b17.toInt8.toInt32), .int (b18.toInt8.toInt32), .int (b19.toInt8.toInt32), .int (b20.toInt8.toInt32), .int (b21.toInt8.toInt32)] ∧ ex3 Z h xa2 ∧ Safe Z EL0 vm h xa2 ∧ h0.size ≤ xa1 ∧ h.size > xa1 ∧ h0.size ≤ xa2 ∧ h.size > xa2 ∧ NE xa1 xa2
theorem rm_au89 (F0 : av1 Z h0 pa1 pk1 22 [.int pi1, .int pi2, .int pi3, .int pi4, .int pi5, .int pi6, .int pi7, .int pi8, .int pi9, .int pi10, .int pi11, .int pi12, .int pi13, .int pi14, .int pi15, .int pi16, .int pi17, .int pi18, .int pi19, .int pi20, .int pi21, .int pi22]) (rg_pi1 : ¬ pi1 < 0 ∧ ¬ (255 : Int32) < pi1) (rg_pi2 : ¬ pi2 < 0 ∧ ¬ (255 : Int32) < pi2) (rg_pi3 : ¬ pi3 < 0 ∧ ¬ (255 : Int32) < pi3) (rg_pi4 : ¬ pi4 < 0 ∧ ¬ (255 : Int32) < pi4) (rg_pi5 : ¬ pi5 < 0 ∧ ¬ (255 : Int32) < pi5) (rg_pi6 : ¬ pi6 < 0 ∧ ¬ (255 : Int32) < pi6) (rg_pi7 : ¬ pi7 < 0 ∧ ¬ (255 : Int32) < pi7) (rg_pi8 : ¬ pi8 < 0 ∧ ¬ (255 : Int32) < pi8) (rg_pi9 : ¬ pi9 < 0 ∧ ¬ (255 : Int32) < pi9) (rg_pi10 : ¬ pi10 < 0 ∧ ¬ (255 : Int32) < pi10) (rg_pi11 : ¬ pi11 < 0 ∧ ¬ (255 : Int32) < pi11) (rg_pi12 : ¬ pi12 < 0 ∧ ¬ (255 : Int32) < pi12) (rg_pi13 : ¬ pi13 < 0 ∧ ¬ (255 : Int32) < pi13) (rg_pi14 : ¬ pi14 < 0 ∧ ¬ (255 : Int32) < pi14) (rg_pi15 : ¬ pi15 < 0 ∧ ¬ (255 : Int32) < pi15) (rg_pi16 : ¬ pi16 < 0 ∧ ¬ (255 : Int32) < pi16) (rg_pi17 : ¬ pi17 < 0 ∧ ¬ (255 : Int32) < pi17) (rg_pi18 : ¬ pi18 < 0 ∧ ¬ (255 : Int32) < pi18) (rg_pi19 : ¬ pi19 < 0 ∧ ¬ (255 : Int32) < pi19) (rg_pi20 : ¬ pi20 < 0 ∧ ¬ (255 : Int32) < pi20) (rg_pi21 : ¬ pi21 < 0 ∧ ¬ (255 : Int32) < pi21) (rg_pi22 : ¬ pi22 < 0 ∧ ¬ (255 : Int32) < pi22) (pc_0 : ¬ pi100 = (0 : Int32)) (pc_1 : ¬ pi100 = (1 : Int32)) (pc_2 : ¬ pi100 = (2 : Int32)) (pc_3 : ¬ pi100 = (3 : Int32)) (pc_4 : ¬ pi100 = (4 : Int32)) (pc_5 : ¬ pi100 = (5 : Int32)) (pc_6 : pi100 = (6 : Int32)) : M10 G 4 3 46 66 #[.ref pa1, .int pi100] h0 n0 [] [] (Q41 Z pi1 pi2 pi3 pi4 pi5 pi6 pi7 pi8 pi9 pi10 pi11 pi12 pi13 pi14 pi15 pi16 pi17 pi18 pi19 pi20 pi21 h0) := by
  refine mi B10 ef0 (hEW G) fun s X0 hsf0 n0le => ?_
  have l1 := F0.l
  refine oI 1 X0 d10_0 rfl rfl <| oy 7 X0 d10_1 (by decide) ((if0 _ _).trans (feq pc_0).2) <| oI 8 X0 d10_7 rfl rfl <| oc 9 (v := 1) X0 d10_8 rfl (by decide) <| oY 41 X0 d10_9 (by decide) (feq pc_1).2 <| oI 42 X0 d10_41 rfl rfl <| oc 43 (v := 2) X0 d10_42 rfl (by decide) <| oY 81 X0 d10_43 (by decide) (feq pc_2).2 <| oI 82 X0 d10_81 rfl rfl <| oc 83 (v := 3) X0 d10_82 rfl (by decide) <| oY 127 X0 d10_83 (by decide) (feq pc_3).2 <| oI 128 X0 d10_127 rfl rfl ?_
  refine oc 129 (v := 4) X0 d10_128 rfl (by decide) <| oY 180 X0 d10_129 (by decide) (feq pc_4).2 <| oI 181 X0 d10_180 rfl rfl <| oc 182 (v := 5) X0 d10_181 rfl (by decide) <| oY 345 X0 d10_182 (by decide) (feq pc_5).2 <| oI 346 X0 d10_345 rfl rfl <| ob 348 (v := 6) X0 d10_346 rfl (by decide) <| oN 351 X0 d10_348 rfl (teq pc_6).2 <| o_new 354 X0 (w52 G) (w2 G) (w1 G) d10_351 rfl (by decide) (by decide) ?_
  intro _ h1 b1 X1 _ l1 E1 A1 D1 _ _ S1
  have f2 : fd1 Z h1 b1 .null := D1 (Or.inr (w4 G)) fd_0
  have f3 : fd0 Z h1 b1 (.int 0) := D1 (Or.inr (w5 G)) fd_1
  refine oD 355 X1 d10_354 rfl rfl <| ob 357 (v := 21) X1 d10_355 rfl (by decide) <| nP (aty := .char) 359 21 X1 (w9 G) d10_357 rfl (by decide) had_char ?_
  intro _ h4 b4 k4 X4 _ _ E4 V4 A4 C4 _
  have V5 : av1 Z h4 b4 k4 21 [i0, i0, i0, i0, i0, i0, i0, i0, i0, i0, i0, i0, i0, i0, i0, i0, i0, i0, i0, i0, i0] := V4.pad (pad_rep [] (.int (0 : Int32)) 21)
  refine oD 360 X4 d10_359 rfl rfl <| oc 361 (v := 0) X4 d10_360 rfl (by decide) <| oA 362 X4 d10_361 rfl rfl <| oc 363 (v := 0) X4 d10_362 rfl (by decide) ?_
  have f6 := (F0.ext E1).ext E4
  refine oC 364 (v := (.int pi1)) X4 f6 ⟨by decide, by decide⟩ rfl d10_363 rfl <| sC 365 0 pi1 X4 V5 (by decide) (lb rfl) (own_narC rg_pi1) d10_364 rfl (by omega) (Or.inr (by omega)) (sx X4 A4 nc0) ?_
  rintro _ _ X7 ⟨_, _, W7⟩ C7 V7
  have := W7.size
  have V8 := V7.as [.int pi1, i0, i0, i0, i0, i0, i0, i0, i0, i0, i0, i0, i0, i0, i0, i0, i0, i0, i0, i0, i0] rfl
  refine oD 366 X7 d10_365 rfl rfl <| oc 367 (v := 1) X7 d10_366 rfl (by decide) <| oA 368 X7 d10_367 rfl rfl <| oc 369 (v := 1) X7 d10_368 rfl (by decide) ?_
  have f9 := f6.oth W7 (by omega)
  refine oC 370 (v := (.int pi2)) X7 f9 ⟨by decide, by decide⟩ rfl d10_369 rfl ?_
  have f11 := A4.wr W7
  refine sC 371 1 pi2 X7 V8 (by decide) (lb rfl) (own_narC rg_pi2) d10_370 rfl (by omega) (Or.inr (by omega)) (sx X7 f11 nc0) ?_
  rintro _ _ X10 ⟨_, _, W10⟩ C10 V10
  have := W10.size
  have V12 := V10.as [.int pi1, .int pi2, i0, i0, i0, i0, i0, i0, i0, i0, i0, i0, i0, i0, i0, i0, i0, i0, i0, i0, i0] rfl
  refine oD 372 X10 d10_371 rfl rfl <| oc 373 (v := 2) X10 d10_372 rfl (by decide) <| oA 374 X10 d10_373 rfl rfl <| oc 375 (v := 2) X10 d10_374 rfl (by decide) ?_
  have f13 := f9.oth W10 (by omega)
  refine oC 376 (v := (.int pi3)) X10 f13 ⟨by decide, by decide⟩ rfl d10_375 rfl ?_
  have f15 := f11.wr W10
  refine sC 377 2 pi3 X10 V12 (by decide) (lb rfl) (own_narC rg_pi3) d10_376 rfl (by omega) (Or.inr (by omega)) (sx X10 f15 nc0) ?_
  rintro _ _ X14 ⟨_, _, W14⟩ C14 V14
  have := W14.size
  have V16 := V14.as [.int pi1, .int pi2, .int pi3, i0, i0, i0, i0, i0, i0, i0, i0, i0, i0, i0, i0, i0, i0, i0, i0, i0, i0] rfl
  refine oD 378 X14 d10_377 rfl rfl <| oc 379 (v := 3) X14 d10_378 rfl (by decide) <| oA 380 X14 d10_379 rfl rfl <| oc 381 (v := 3) X14 d10_380 rfl (by decide) ?_
  have f17 := f13.oth W14 (by omega)
  refine oC 382 (v := (.int pi4)) X14 f17 ⟨by decide, by decide⟩ rfl d10_381 rfl ?_
  have f19 := f15.wr W14
  refine sC 383 3 pi4 X14 V16 (by decide) (lb rfl) (own_narC rg_pi4) d10_382 rfl (by omega) (Or.inr (by omega)) (sx X14 f19 nc0) ?_
  rintro _ _ X18 ⟨_, _, W18⟩ C18 V18
  have := W18.size
  have V20 := V18.as [.int pi1, .int pi2, .int pi3, .int pi4, i0, i0, i0, i0, i0, i0, i0, i0, i0, i0, i0, i0, i0, i0, i0, i0, i0] rfl
  refine oD 384 X18 d10_383 rfl rfl <| oc 385 (v := 4) X18 d10_384 rfl (by decide) <| oA 386 X18 d10_385 rfl rfl <| oc 387 (v := 4) X18 d10_386 rfl (by decide) ?_
  have f21 := f17.oth W18 (by omega)
  refine oC 388 (v := (.int pi5)) X18 f21 ⟨by decide, by decide⟩ rfl d10_387 rfl ?_
  have f23 := f19.wr W18
  refine sC 389 4 pi5 X18 V20 (by decide) (lb rfl) (own_narC rg_pi5) d10_388 rfl (by omega) (Or.inr (by omega)) (sx X18 f23 nc0) ?_
  rintro _ _ X22 ⟨_, _, W22⟩ C22 V22
  have := W22.size
  have V24 := V22.as [.int pi1, .int pi2, .int pi3, .int pi4, .int pi5, i0, i0, i0, i0, i0, i0, i0, i0, i0, i0, i0, i0, i0, i0, i0, i0] rfl
  refine oD 390 X22 d10_389 rfl rfl <| oc 391 (v := 5) X22 d10_390 rfl (by decide) <| oA 392 X22 d10_391 rfl rfl <| oc 393 (v := 5) X22 d10_392 rfl (by decide) ?_
  have f25 := f21.oth W22 (by omega)
  refine oC 394 (v := (.int pi6)) X22 f25 ⟨by decide, by decide⟩ rfl d10_393 rfl ?_
  have f27 := f23.wr W22
  refine sC 395 5 pi6 X22 V24 (by decide) (lb rfl) (own_narC rg_pi6) d10_394 rfl (by omega) (Or.inr (by omega)) (sx X22 f27 nc0) ?_
  rintro _ _ X26 ⟨_, _, W26⟩ C26 V26
  have := W26.size
  have V28 := V26.as [.int pi1, .int pi2, .int pi3, .int pi4, .int pi5, .int pi6, i0, i0, i0, i0, i0, i0, i0, i0, i0, i0, i0, i0, i0, i0, i0] rfl
  refine oD 396 X26 d10_395 rfl rfl <| ob 398 (v := 6) X26 d10_396 rfl (by decide) <| oA 399 X26 d10_398 rfl rfl <| ob 401 (v := 6) X26 d10_399 rfl (by decide) ?_
  have f29 := f25.oth W26 (by omega)
  refine oC 402 (v := (.int pi7)) X26 f29 ⟨by decide, by decide⟩ rfl d10_401 rfl ?_
  have f31 := f27.wr W26
  refine sC 403 6 pi7 X26 V28 (by decide) (lb rfl) (own_narC rg_pi7) d10_402 rfl (by omega) (Or.inr (by omega)) (sx X26 f31 nc0) ?_
  rintro _ _ X30 ⟨_, _, W30⟩ C30 V30
  have := W30.size
  have V32 := V30.as [.int pi1, .int pi2, .int pi3, .int pi4, .int pi5, .int pi6, .int pi7, i0, i0, i0, i0, i0, i0, i0, i0, i0, i0, i0, i0, i0, i0] rfl
  refine oD 404 X30 d10_403 rfl rfl <| ob 406 (v := 7) X30 d10_404 rfl (by decide) <| oA 407 X30 d10_406 rfl rfl <| ob 409 (v := 7) X30 d10_407 rfl (by decide) ?_
  have f33 := f29.oth W30 (by omega)
  refine oC 410 (v := (.int pi8)) X30 f33 ⟨by decide, by decide⟩ rfl d10_409 rfl ?_
  have f35 := f31.wr W30
  refine sC 411 7 pi8 X30 V32 (by decide) (lb rfl) (own_narC rg_pi8) d10_410 rfl (by omega) (Or.inr (by omega)) (sx X30 f35 nc0) ?_
  rintro _ _ X34 ⟨_, _, W34⟩ C34 V34
  have := W34.size
  have V36 := V34.as [.int pi1, .int pi2, .int pi3, .int pi4, .int pi5, .int pi6, .int pi7, .int pi8, i0, i0, i0, i0, i0, i0, i0, i0, i0, i0, i0, i0, i0] rfl
  refine oD 412 X34 d10_411 rfl rfl <| ob 414 (v := 8) X34 d10_412 rfl (by decide) <| oA 415 X34 d10_414 rfl rfl <| ob 417 (v := 8) X34 d10_415 rfl (by decide) ?_
  have f37 := f33.oth W34 (by omega)
  refine oC 418 (v := (.int pi9)) X34 f37 ⟨by decide, by decide⟩ rfl d10_417 rfl ?_
  have f39 := f35.wr W34
  refine sC 419 8 pi9 X34 V36 (by decide) (lb rfl) (own_narC rg_pi9) d10_418 rfl (by omega) (Or.inr (by omega)) (sx X34 f39 nc0) ?_
  rintro _ _ X38 ⟨_, _, W38⟩ C38 V38
  have := W38.size
  have V40 := V38.as [.int pi1, .int pi2, .int pi3, .int pi4, .int pi5, .int pi6, .int pi7, .int pi8, .int pi9, i0, i0, i0, i0, i0, i0, i0, i0, i0, i0, i0, i0] rfl
  refine oD 420 X38 d10_419 rfl rfl <| ob 422 (v := 9) X38 d10_420 rfl (by decide) <| oA 423 X38 d10_422 rfl rfl <| ob 425 (v := 9) X38 d10_423 rfl (by decide) ?_
  have f41 := f37.oth W38 (by omega)
  refine oC 426 (v := (.int pi10)) X38 f41 ⟨by decide, by decide⟩ rfl d10_425 rfl ?_
  have f43 := f39.wr W38
  refine sC 427 9 pi10 X38 V40 (by decide) (lb rfl) (own_narC rg_pi10) d10_426 rfl (by omega) (Or.inr (by omega)) (sx X38 f43 nc0) ?_
  rintro _ _ X42 ⟨_, _, W42⟩ C42 V42
  have := W42.size
  have V44 := V42.as [.int pi1, .int pi2, .int pi3, .int pi4, .int pi5, .int pi6, .int pi7, .int pi8, .int pi9, .int pi10, i0, i0, i0, i0, i0, i0, i0, i0, i0, i0, i0] rfl
  refine oD 428 X42 d10_427 rfl rfl <| ob 430 (v := 10) X42 d10_428 rfl (by decide) <| oA 431 X42 d10_430 rfl rfl <| ob 433 (v := 10) X42 d10_431 rfl (by decide) ?_
  have f45 := f41.oth W42 (by omega)
  refine oC 434 (v := (.int pi11)) X42 f45 ⟨by decide, by decide⟩ rfl d10_433 rfl ?_
  have f47 := f43.wr W42
  refine sC 435 10 pi11 X42 V44 (by decide) (lb rfl) (own_narC rg_pi11) d10_434 rfl (by omega) (Or.inr (by omega)) (sx X42 f47 nc0) ?_
  rintro _ _ X46 ⟨_, _, W46⟩ C46 V46
  have := W46.size
  have V48 := V46.as [.int pi1, .int pi2, .int pi3, .int pi4, .int pi5, .int pi6, .int pi7, .int pi8, .int pi9, .int pi10, .int pi11, i0, i0, i0, i0, i0, i0, i0, i0, i0, i0] rfl
  refine oD 436 X46 d10_435 rfl rfl <| ob 438 (v := 11) X46 d10_436 rfl (by decide) <| oA 439 X46 d10_438 rfl rfl <| ob 441 (v := 11) X46 d10_439 rfl (by decide) ?_
  have f49 := f45.oth W46 (by omega)
  refine oC 442 (v := (.int pi12)) X46 f49 ⟨by decide, by decide⟩ rfl d10_441 rfl ?_
  have f51 := f47.wr W46
  refine sC 443 11 pi12 X46 V48 (by decide) (lb rfl) (own_narC rg_pi12) d10_442 rfl (by omega) (Or.inr (by omega)) (sx X46 f51 nc0) ?_
  rintro _ _ X50 ⟨_, _, W50⟩ C50 V50
  have := W50.size
  have V52 := V50.as [.int pi1, .int pi2, .int pi3, .int pi4, .int pi5, .int pi6, .int pi7, .int pi8, .int pi9, .int pi10, .int pi11, .int pi12, i0, i0, i0, i0, i0, i0, i0, i0, i0] rfl
  refine oD 444 X50 d10_443 rfl rfl <| ob 446 (v := 12) X50 d10_444 rfl (by decide) <| oA 447 X50 d10_446 rfl rfl <| ob 449 (v := 12) X50 d10_447 rfl (by decide) ?_
  have f53 := f49.oth W50 (by omega)
  refine oC 450 (v := (.int pi13)) X50 f53 ⟨by decide, by decide⟩ rfl d10_449 rfl ?_
  have f55 := f51.wr W50
  refine sC 451 12 pi13 X50 V52 (by decide) (lb rfl) (own_narC rg_pi13) d10_450 rfl (by omega) (Or.inr (by omega)) (sx X50 f55 nc0) ?_
  rintro _ _ X54 ⟨_, _, W54⟩ C54 V54
  have := W54.size
  have V56 := V54.as [.int pi1, .int pi2, .int pi3, .int pi4, .int pi5, .int pi6, .int pi7, .int pi8, .int pi9, .int pi10, .int pi11, .int pi12, .int pi13, i0, i0, i0, i0, i0, i0, i0, i0] rfl
  refine oD 452 X54 d10_451 rfl rfl <| ob 454 (v := 13) X54 d10_452 rfl (by decide) <| oA 455 X54 d10_454 rfl rfl <| ob 457 (v := 13) X54 d10_455 rfl (by decide) ?_
  have f57 := f53.oth W54 (by omega)
  refine oC 458 (v := (.int pi14)) X54 f57 ⟨by decide, by decide⟩ rfl d10_457 rfl ?_
  have f59 := f55.wr W54
  refine sC 459 13 pi14 X54 V56 (by decide) (lb rfl) (own_narC rg_pi14) d10_458 rfl (by omega) (Or.inr (by omega)) (sx X54 f59 nc0) ?_
  rintro _ _ X58 ⟨_, _, W58⟩ C58 V58
  have := W58.size
  have V60 := V58.as [.int pi1, .int pi2, .int pi3, .int pi4, .int pi5, .int pi6, .int pi7, .int pi8, .int pi9, .int pi10, .int pi11, .int pi12, .int pi13, .int pi14, i0, i0, i0, i0, i0, i0, i0] rfl
  refine oD 460 X58 d10_459 rfl rfl <| ob 462 (v := 14) X58 d10_460 rfl (by decide) <| oA 463 X58 d10_462 rfl rfl <| ob 465 (v := 14) X58 d10_463 rfl (by decide) ?_
  have f61 := f57.oth W58 (by omega)
  refine oC 466 (v := (.int pi15)) X58 f61 ⟨by decide, by decide⟩ rfl d10_465 rfl ?_
  have f63 := f59.wr W58
  refine sC 467 14 pi15 X58 V60 (by decide) (lb rfl) (own_narC rg_pi15) d10_466 rfl (by omega) (Or.inr (by omega)) (sx X58 f63 nc0) ?_
  rintro _ _ X62 ⟨_, _, W62⟩ C62 V62
  have := W62.size
  have V64 := V62.as [.int pi1, .int pi2, .int pi3, .int pi4, .int pi5, .int pi6, .int pi7, .int pi8, .int pi9, .int pi10, .int pi11, .int pi12, .int pi13, .int pi14, .int pi15, i0, i0, i0, i0, i0, i0] rfl
  refine oD 468 X62 d10_467 rfl rfl <| ob 470 (v := 15) X62 d10_468 rfl (by decide) <| oA 471 X62 d10_470 rfl rfl <| ob 473 (v := 15) X62 d10_471 rfl (by decide) ?_
  have f65 := f61.oth W62 (by omega)
  refine oC 474 (v := (.int pi16)) X62 f65 ⟨by decide, by decide⟩ rfl d10_473 rfl ?_
  have f67 := f63.wr W62
  refine sC 475 15 pi16 X62 V64 (by decide) (lb rfl) (own_narC rg_pi16) d10_474 rfl (by omega) (Or.inr (by omega)) (sx X62 f67 nc0) ?_
  rintro _ _ X66 ⟨_, _, W66⟩ C66 V66
  have := W66.size
  have V68 := V66.as [.int pi1, .int pi2, .int pi3, .int pi4, .int pi5, .int pi6, .int pi7, .int pi8, .int pi9, .int pi10, .int pi11, .int pi12, .int pi13, .int pi14, .int pi15, .int pi16, i0, i0, i0, i0, i0] rfl
  refine oD 476 X66 d10_475 rfl rfl <| ob 478 (v := 16) X66 d10_476 rfl (by decide) <| oA 479 X66 d10_478 rfl rfl <| ob 481 (v := 16) X66 d10_479 rfl (by decide) ?_
  have f69 := f65.oth W66 (by omega)
  refine oC 482 (v := (.int pi17)) X66 f69 ⟨by decide, by decide⟩ rfl d10_481 rfl ?_
  have f71 := f67.wr W66
  refine sC 483 16 pi17 X66 V68 (by decide) (lb rfl) (own_narC rg_pi17) d10_482 rfl (by omega) (Or.inr (by omega)) (sx X66 f71 nc0) ?_
  rintro _ _ X70 ⟨_, _, W70⟩ C70 V70
  have := W70.size
  have V72 := V70.as [.int pi1, .int pi2, .int pi3, .int pi4, .int pi5, .int pi6, .int pi7, .int pi8, .int pi9, .int pi10, .int pi11, .int pi12, .int pi13, .int pi14, .int pi15, .int pi16, .int pi17, i0, i0, i0, i0] rfl
  refine oD 484 X70 d10_483 rfl rfl <| ob 486 (v := 17) X70 d10_484 rfl (by decide) <| oA 487 X70 d10_486 rfl rfl <| ob 489 (v := 17) X70 d10_487 rfl (by decide) ?_
  have f73 := f69.oth W70 (by omega)
  refine oC 490 (v := (.int pi18)) X70 f73 ⟨by decide, by decide⟩ rfl d10_489 rfl ?_
  have f75 := f71.wr W70
  refine sC 491 17 pi18 X70 V72 (by decide) (lb rfl) (own_narC rg_pi18) d10_490 rfl (by omega) (Or.inr (by omega)) (sx X70 f75 nc0) ?_
  rintro _ _ X74 ⟨_, _, W74⟩ C74 V74
  have := W74.size
  have V76 := V74.as [.int pi1, .int pi2, .int pi3, .int pi4, .int pi5, .int pi6, .int pi7, .int pi8, .int pi9, .int pi10, .int pi11, .int pi12, .int pi13, .int pi14, .int pi15, .int pi16, .int pi17, .int pi18, i0, i0, i0] rfl
  refine oD 492 X74 d10_491 rfl rfl <| ob 494 (v := 18) X74 d10_492 rfl (by decide) <| oA 495 X74 d10_494 rfl rfl <| ob 497 (v := 18) X74 d10_495 rfl (by decide) ?_
  have f77 := f73.oth W74 (by omega)
  refine oC 498 (v := (.int pi19)) X74 f77 ⟨by decide, by decide⟩ rfl d10_497 rfl ?_
  have f79 := f75.wr W74
  refine sC 499 18 pi19 X74 V76 (by decide) (lb rfl) (own_narC rg_pi19) d10_498 rfl (by omega) (Or.inr (by omega)) (sx X74 f79 nc0) ?_
  rintro _ _ X78 ⟨_, _, W78⟩ C78 V78
  have := W78.size
  have V80 := V78.as [.int pi1, .int pi2, .int pi3, .int pi4, .int pi5, .int pi6, .int pi7, .int pi8, .int pi9, .int pi10, .int pi11, .int pi12, .int pi13, .int pi14, .int pi15, .int pi16, .int pi17, .int pi18, .int pi19, i0, i0] rfl
  refine oD 500 X78 d10_499 rfl rfl <| ob 502 (v := 19) X78 d10_500 rfl (by decide) <| oA 503 X78 d10_502 rfl rfl <| ob 505 (v := 19) X78 d10_503 rfl (by decide) ?_
  have f81 := f77.oth W78 (by omega)
  refine oC 506 (v := (.int pi20)) X78 f81 ⟨by decide, by decide⟩ rfl d10_505 rfl ?_
  have f83 := f79.wr W78
  refine sC 507 19 pi20 X78 V80 (by decide) (lb rfl) (own_narC rg_pi20) d10_506 rfl (by omega) (Or.inr (by omega)) (sx X78 f83 nc0) ?_
  rintro _ _ X82 ⟨_, _, W82⟩ C82 V82
  have := W82.size
  have V84 := V82.as [.int pi1, .int pi2, .int pi3, .int pi4, .int pi5, .int pi6, .int pi7, .int pi8, .int pi9, .int pi10, .int pi11, .int pi12, .int pi13, .int pi14, .int pi15, .int pi16, .int pi17, .int pi18, .int pi19, .int pi20, i0] rfl
  refine oD 508 X82 d10_507 rfl rfl <| ob 510 (v := 20) X82 d10_508 rfl (by decide) <| oA 511 X82 d10_510 rfl rfl <| ob 513 (v := 20) X82 d10_511 rfl (by decide) ?_
  have f85 := f81.oth W82 (by omega)
  refine oC 514 (v := (.int pi21)) X82 f85 ⟨by decide, by decide⟩ rfl d10_513 rfl ?_
  have f87 := f83.wr W82
  refine sC 515 20 pi21 X82 V84 (by decide) (lb rfl) (own_narC rg_pi21) d10_514 rfl (by omega) (Or.inr (by omega)) (sx X82 f87 nc0) ?_
  rintro _ _ X86 ⟨_, _, W86⟩ C86 V86
  have := W86.size
  have V88 := V86.as [.int pi1, .int pi2, .int pi3, .int pi4, .int pi5, .int pi6, .int pi7, .int pi8, .int pi9, .int pi10, .int pi11, .int pi12, .int pi13, .int pi14, .int pi15, .int pi16, .int pi17, .int pi18, .int pi19, .int pi20, .int pi21] rfl
  have f89 := (((((((((((((((((((((A1.ext E4).wr W7).wr W10).wr W14).wr W18).wr W22).wr W26).wr W30).wr W34).wr W38).wr W42).wr W46).wr W50).wr W54).wr W58).wr W62).wr W66).wr W70).wr W74).wr W78).wr W82).wr W86
  have f90 := (((((((((((((((((((((f3.ext E4).oth W7 (by omega)).oth W10 (by omega)).oth W14 (by omega)).oth W18 (by omega)).oth W22 (by omega)).oth W26 (by omega)).oth W30 (by omega)).oth W34 (by omega)).oth W38 (by omega)).oth W42 (by omega)).oth W46 (by omega)).oth W50 (by omega)).oth W54 (by omega)).oth W58 (by omega)).oth W62 (by omega)).oth W66 (by omega)).oth W70 (by omega)).oth W74 (by omega)).oth W78 (by omega)).oth W82 (by omega)).oth W86 (by omega)
  have f91 := (((((((((((((((((((((f2.ext E4).oth W7 (by omega)).oth W10 (by omega)).oth W14 (by omega)).oth W18 (by omega)).oth W22 (by omega)).oth W26 (by omega)).oth W30 (by omega)).oth W34 (by omega)).oth W38 (by omega)).oth W42 (by omega)).oth W46 (by omega)).oth W50 (by omega)).oth W54 (by omega)).oth W58 (by omega)).oth W62 (by omega)).oth W66 (by omega)).oth W70 (by omega)).oth W74 (by omega)).oth W78 (by omega)).oth W82 (by omega)).oth W86 (by omega)
  have f92 := C86.safe (own_lt (by omega)) (C82.safe (own_lt (by omega)) (C78.safe (own_lt (by omega)) (C74.safe (own_lt (by omega)) (C70.safe (own_lt (by omega)) (C66.safe (own_lt (by omega)) (C62.safe (own_lt (by omega)) (C58.safe (own_lt (by omega)) (C54.safe (own_lt (by omega)) (C50.safe (own_lt (by omega)) (C46.safe (own_lt (by omega)) (C42.safe (own_lt (by omega)) (C38.safe (own_lt (by omega)) (C34.safe (own_lt (by omega)) (C30.safe (own_lt (by omega)) (C26.safe (own_lt (by omega)) (C22.safe (own_lt (by omega)) (C18.safe (own_lt (by omega)) (C14.safe (own_lt (by omega)) (C10.safe (own_lt (by omega)) (C7.safe (own_lt (by omega)) (C4.safe (own_lt (by omega)) S1)))))))))))))))))))))
  refine mP 518 1 X86 (rm_au88 G f89 f90 f91 V88 rg_pi1 rg_pi2 rg_pi3 rg_pi4 rg_pi5 rg_pi6 rg_pi7 rg_pi8 rg_pi9 rg_pi10 rg_pi11 rg_pi12 rg_pi13 rg_pi14 rg_pi15 rg_pi16 rg_pi17 rg_pi18 rg_pi19 rg_pi20 rg_pi21 (by omega)) (u21 G) (sS (by omega) f92 all0) d10_515 rfl rfl rfl lr (by decide) (aR (by omega) all0) ?_
  rintro _ _ _ _ X93 ⟨xa1_94, xk1_95, rfl, q96, q97, q98, q99, q100, q101, _⟩ _ _ C93
  have f103 := C93.safe (own_lt (by omega)) f92
  exact oR X93 d10_518 rfl rfl rfl (by decide) (by decide) (fun _ CC => ⟨b1, xa1_94, xk1_95, rfl, q96, q97, q98, (CC.safe (own_lt (by omega)) f103), q99, q100, (CC.safe (own_lt (by omega)) q101), by omega⟩)
theorem rm_au90 (F0 : fd0 Z h0 pa1 (.int pi100)) (F1 : fd1 Z h0 pa1 (.ref pa3)) (F2 : ex0 Z h0 pa2) (F3 : fd0 Z h0 pa2 (.int pi101)) (F4 : fd1 Z h0 pa2 (.ref pa4)) (F5 : av0 Z h0 pa3 pk1 21 [.int pi1, .int pi2, .int pi3, .int pi4, .int pi5, .int pi6, .int pi7, .int pi8, .int pi9, .int pi10, .int pi11, .int pi12, .int pi13, .int pi14, .int pi15, .int pi16, .int pi17, .int pi18, .int pi19, .int pi20, .int pi21]) (F6 : av0 Z h0 pa4 pk2 21 [.int 114, .int 111, .int 108, .int 101, .int 45, .int 97, .int 110, .int 100, .int 45, .int 115, .int 117, .int 98, .int 111, .int 114, .int 100, .int 105, .int 110, .int 97, .int 116, .int 101, .int 115]) (pc_k0 : (oEq [pi1, pi2, pi3, pi4, pi5, pi6, pi7, pi8, pi9, pi10, pi11, pi12, pi13, pi14, pi15, pi16, pi17, pi18, pi19, pi20, pi21] [114, 111, 108, 101, 45, 97, 110, 100, 45, 115, 117, 98, 111, 114, 100, 105, 110, 97, 116, 101, 115]) = (0 : Int32)) (pc_0 : pi100 = pi101) (ne : NE pa1 pa2) : M12 G 1 0 0 14 #[.ref pa1, .ref pa2] h0 n0 [] [] (Q4 Z  h0) := by
  refine mi B12 ef5 (hEW G) fun s X0 hsf0 n0le => ?_
  have := F0.l
  have := F2.l
  have := F5.l
  have := F6.l
  refine oA 1 X0 d12_0 rfl rfl <| oA 2 X0 d12_1 rfl rfl <| o_acmp 7 (same := false) X0 d12_2 rfl rfl (decide_eq_false (fun q => absurd (Value.ref.inj q) (own_ne (by omega)))) (by decide) (by decide) <| oA 8 X0 d12_7 rfl rfl <| o_instY 11 X0 (w81 G) (Ins.self F2) d12_8 rfl ?_
  intro _ X2
  refine on 14 X2 d12_11 rfl ((if0 _ _).trans (feq (by decide)).1) <| oA 15 X2 d12_14 rfl rfl <| o_castY 18 X2 (w81 G) (Ins.self F2) d12_15 rfl ?_
  intro _ X4
  refine oV 19 (l' := #[rr pa1, rr pa2, rr pa2]) X4 d12_18 rfl rfl rfl <| oG 22 X4 (w25 G) Via.refl ((sg15 G).ext X4.old.2) d12_19 rfl ?_
  intro _ X6
  refine on 25 X6 d12_22 rfl ((if0 _ _).trans (feq (hzc G)).1) <| oA 26 X6 d12_25 rfl rfl <| oF 29 X6 (w26 G) Via.refl F0 d12_26 rfl ?_
  intro _ X8
  refine oA 30 X8 d12_29 rfl rfl <| oF 33 X8 (w26 G) Via.refl F3 d12_30 rfl ?_
  intro _ X10
  refine oN 36 X10 d12_33 rfl (teq pc_0).2 <| oA 37 X10 d12_36 rfl rfl <| oF 40 X10 (w19 G) Via.refl F1 d12_37 rfl ?_
  intro _ X12
  refine oA 41 X12 d12_40 rfl rfl <| oF 44 X12 (w19 G) Via.refl F4 d12_41 rfl ?_
  intro _ X14
  refine mS 47 0 X14 (rm_eqA_a G F5 F6) (u9 G) all0 d12_44 rfl rfl rfl lr (by decide) all0 ?_
  rintro _ _ _ _ X15 rfl _ _ _
  refine oy 54 X15 d12_47 (by decide) ((if0 _ _).trans (teq pc_k0).1) <| oc 55 (v := 0) X15 d12_54 rfl (by decide) ?_
  exact o_nret (y := (0 : Int32)) (t := .boolean) X15 d12_55 rfl (by decide) (by simp) (by decide) (by decide) (fun _ CC => rfl)
theorem rm_au91 (F0 : ex0 Z h0 pa1) (F1 : fd0 Z h0 pa1 (.int 0)) (F2 : fd1 Z h0 pa1 (.ref pa2)) (F3 : av0 Z h0 pa2 pk1 21 [.int pi1, .int pi2, .int pi3, .int pi4, .int pi5, .int pi6, .int pi7, .int pi8, .int pi9, .int pi10, .int pi11, .int pi12, .int pi13, .int pi14, .int pi15, .int pi16, .int pi17, .int pi18, .int pi19, .int pi20, .int pi21]) (F4 : ex3 Z h0 pa2) (pc_k0 : (oEq [pi1, pi2, pi3, pi4, pi5, pi6, pi7, pi8, pi9, pi10, pi11, pi12, pi13, pi14, pi15, pi16, pi17, pi18, pi19, pi20, pi21] [114, 111, 108, 101, 45, 97, 110, 100, 45, 115, 117, 98, 111, 114, 100, 105, 110, 97, 116, 101, 115]) = (0 : Int32)) : M11 G 2 8 152 28 #[.ref pa1] h0 n0 [] [pa1, pa2] (Q13 Z  h0) := by
  have hw := G.1
  refine mi B11 ef3 (hEW G) fun s X0 hsf0 n0le => ?_
  have := F0.l
  have := F3.l
  have sf_pa1 := hsf0 pa1 (by simp)
  have sf_pa2 := hsf0 pa2 (by simp)
  refine oA 1 X0 d11_0 rfl rfl <| o_ldcC 3 (n := 16) (vs := own_bs ([117, 115, 101, 114] : List Int32)) (z := (4 : Int32)) X0 (w0 G) (hws_str hw) (by decide) ⟨by decide, rfl⟩ (by decide) (by decide) d11_1 rfl (by decide) (by decide) (by decide) (by decide) ?_
  intro a1 b1 kb1 _ h1 _ X1 E1 C1 Es1 Cs1 Vs1 As1 SF1
  have lta1 : h1.size > a1 := Es1.lt
  have ltb1 : h1.size > b1 := As1.lt
  have := E1.1
  have Bs1 : av0 Z h1 b1 kb1 4 [.int 117, .int 115, .int 101, .int 114] := As1
  have f3 := C1.safe (own_lt (by omega)) sf_pa1
  have := own_nes (SF1 pa1 f3)
  have f5 := C1.safe (own_lt (by omega)) sf_pa2
  have := own_nes (SF1 pa2 f5)
  have f6 := F1.ext E1
  have f7 := F2.ext E1
  have f8 := F3.ext E1
  have f9 := F0.ext E1
  refine mV 6 0 X1 f9 (rm_au13 G f6 f7 Es1 Cs1 Vs1 f8 Bs1 (by decide) (by decide) (by omega)) (u10 G) all0 d11_3 rfl rfl rfl lr (by decide) all0 ?_
  rintro _ _ _ _ X10 rfl K10 _ C10
  refine oy 13 X10 d11_6 (by decide) ((if0 _ _).trans (teq (by decide)).1) <| oA 14 X10 d11_13 rfl rfl <| o_ldcC 16 (n := 16) (vs := own_bs ([114, 111, 108, 101] : List Int32)) (z := (4 : Int32)) X10 (w85 G) (hws_str hw) (by decide) ⟨by decide, rfl⟩ (by decide) (by decide) d11_14 rfl (by decide) (by decide) (by decide) (by decide) ?_
  intro a11 b11 kb11 _ h11 _ X11 E11 C11 Es11 Cs11 Vs11 As11 SF11
  have lta11 : h11.size > a11 := Es11.lt
  have ltb11 : h11.size > b11 := As11.lt
  have := E11.1
  have Bs11 : av0 Z h11 b11 kb11 4 [.int 114, .int 111, .int 108, .int 101] := As11
  have f13 := C11.safe (own_lt (by omega)) (C10.safe (own_lt (by omega)) f3)
  have := own_nes (SF11 pa1 f13)
  have f15 := C11.safe (own_lt (by omega)) (C10.safe (own_lt (by omega)) f5)
  have := own_nes (SF11 pa2 f15)
  have f16 := (f6.k0 K10).ext E11
  have f17 := (f7.k0 K10).ext E11
  have f18 := (f8.k0 K10).ext E11
  have f19 := (f9.keep K10).ext E11
  refine mV 19 0 X11 f19 (rm_au13 G f16 f17 Es11 Cs11 Vs11 f18 Bs11 (by decide) (by decide) (by omega)) (u10 G) all0 d11_16 rfl rfl rfl lr (by decide) all0 ?_
  rintro _ _ _ _ X20 rfl K20 _ C20
  refine oy 26 X20 d11_19 (by decide) ((if0 _ _).trans (teq (by decide)).1) <| oA 27 X20 d11_26 rfl rfl <| o_ldcC 29 (n := 20) (vs := own_bs ([103, 114, 111, 117, 112] : List Int32)) (z := (5 : Int32)) X20 (w86 G) (hws_str hw) (by decide) ⟨by decide, rfl⟩ (by decide) (by decide) d11_27 rfl (by decide) (by decide) (by decide) (by decide) ?_
  intro a21 b21 kb21 _ h21 _ X21 E21 C21 Es21 Cs21 Vs21 As21 SF21
  have lta21 : h21.size > a21 := Es21.lt
  have ltb21 : h21.size > b21 := As21.lt
  have := E21.1
  have Bs21 : av0 Z h21 b21 kb21 5 [.int 103, .int 114, .int 111, .int 117, .int 112] := As21
  have f23 := (((Vs1.k0 K10).ext E11).k0 K20).ext E21
  have f24 := (((Bs1.k0 K10).ext E11).k0 K20).ext E21
  have := own_neL f23 f24 Vs21 As21 (by decide)
  have f26 := (Vs11.k0 K20).ext E21
  have f27 := (Bs11.k0 K20).ext E21
  have := own_neL f26 f27 Vs21 As21 (by decide)
  have f29 := C21.safe (own_lt (by omega)) (C20.safe (own_lt (by omega)) f13)
  have := own_nes (SF21 pa1 f29)
  have f31 := C21.safe (own_lt (by omega)) (C20.safe (own_lt (by omega)) f15)
  have := own_nes (SF21 pa2 f31)
  have f32 := (f16.k0 K20).ext E21
  have f33 := (f17.k0 K20).ext E21
  have f34 := (f18.k0 K20).ext E21
  have f35 := (f19.keep K20).ext E21
  refine mV 32 0 X21 f35 (rm_au13 G f32 f33 Es21 Cs21 Vs21 f34 Bs21 (by decide) (by decide) (by omega)) (u10 G) all0 d11_29 rfl rfl rfl lr (by decide) all0 ?_
  rintro _ _ _ _ X36 rfl K36 _ C36
  refine oy 39 X36 d11_32 (by decide) ((if0 _ _).trans (teq (by decide)).1) <| oA 40 X36 d11_39 rfl rfl <| o_ldcC 42 (n := 84) (vs := own_bs ([114, 111, 108, 101, 45, 97, 110, 100, 45, 115, 117, 98, 111, 114, 100, 105, 110, 97, 116, 101, 115] : List Int32)) (z := (21 : Int32)) X36 (w87 G) (hws_str hw) (by decide) ⟨by decide, rfl⟩ (by decide) (by decide) d11_40 rfl (by decide) (by decide) (by decide) (by decide) ?_
  intro a37 b37 kb37 _ h37 _ X37 E37 C37 Es37 Cs37 Vs37 As37 SF37
  have lta37 : h37.size > a37 := Es37.lt
  have ltb37 : h37.size > b37 := As37.lt
  have := E37.1
  have Bs37 : av0 Z h37 b37 kb37 21 [.int 114, .int 111, .int 108, .int 101, .int 45, .int 97, .int 110, .int 100, .int 45, .int 115, .int 117, .int 98, .int 111, .int 114, .int 100, .int 105, .int 110, .int 97, .int 116, .int 101, .int 115] := As37
  have f39 := (f23.k0 K36).ext E37
  have f40 := (f24.k0 K36).ext E37
  have := own_neL f39 f40 Vs37 As37 (by decide)
  have f42 := (f26.k0 K36).ext E37
  have f43 := (f27.k0 K36).ext E37
  have := own_neL f42 f43 Vs37 As37 (by decide)
  have f45 := (Vs21.k0 K36).ext E37
  have f46 := (Bs21.k0 K36).ext E37
  have := own_neL f45 f46 Vs37 As37 (by decide)
  have f48 := C37.safe (own_lt (by omega)) (C36.safe (own_lt (by omega)) f29)
  have := own_nes (SF37 pa1 f48)
  have f50 := C37.safe (own_lt (by omega)) (C36.safe (own_lt (by omega)) f31)
  have := own_nes (SF37 pa2 f50)
  have f51 := (f32.k0 K36).ext E37
  have f52 := (f33.k0 K36).ext E37
  have f53 := (f34.k0 K36).ext E37
  have f54 := (f35.keep K36).ext E37
  refine mV 45 0 X37 f54 (rm_au90 G f51 f52 Es37 Cs37 Vs37 f53 Bs37 pc_k0 (by decide) (by omega)) (u10 G) all0 d11_42 rfl rfl rfl lr (by decide) all0 ?_
  rintro _ _ _ _ X55 rfl _ _ _
  refine oy 52 X55 d11_45 (by decide) ((if0 _ _).trans (teq (by decide)).1) <| o_aconstNull 53 X55 d11_52 rfl ?_
  exact oR X55 d11_53 rfl rfl rfl (by decide) (by decide) (fun _ CC => rfl)
theorem rm_au92 (F0 : ex0 Z h0 pa1) (F1 : fd0 Z h0 pa1 (.int pi100)) (F2 : fd1 Z h0 pa1 (.ref pa2)) (F3 : av0 Z h0 pa2 pk1 21 [.int pi1, .int pi2, .int pi3, .int pi4, .int pi5, .int pi6, .int pi7, .int pi8, .int pi9, .int pi10, .int pi11, .int pi12, .int pi13, .int pi14, .int pi15, .int pi16, .int pi17, .int pi18, .int pi19, .int pi20, .int pi21]) (pc_k0 : (oEq [pi1, pi2, pi3, pi4, pi5, pi6, pi7, pi8, pi9, pi10, pi11, pi12, pi13, pi14, pi15, pi16, pi17, pi18, pi19, pi20, pi21] [114, 111, 108, 101, 45, 97, 110, 100, 45, 115, 117, 98, 111, 114, 100, 105, 110, 97, 116, 101, 115]) = (0 : Int32)) (pc_0 : (0 : Int32) = pi100) (ne : NE su3 pa1) : M12 G 1 0 0 14 #[.ref su3, .ref pa1] h0 n0 [] [] (Q4 Z  h0) := by
  refine mi B12 ef5 (hEW G) fun s X0 hsf0 n0le => ?_
  have := F0.l
  have := F3.l
  have gl_su3 := ltg_su3 G X0.old
  refine oA 1 X0 d12_0 rfl rfl <| oA 2 X0 d12_1 rfl rfl <| o_acmp 7 (same := false) X0 d12_2 rfl rfl (decide_eq_false (fun q => absurd (Value.ref.inj q) (own_ne (by omega)))) (by decide) (by decide) <| oA 8 X0 d12_7 rfl rfl <| o_instY 11 X0 (w81 G) (Ins.self F0) d12_8 rfl ?_
  intro _ X2
  refine on 14 X2 d12_11 rfl ((if0 _ _).trans (feq (by decide)).1) <| oA 15 X2 d12_14 rfl rfl <| o_castY 18 X2 (w81 G) (Ins.self F0) d12_15 rfl ?_
  intro _ X4
  refine oV 19 (l' := #[rr su3, rr pa1, rr pa1]) X4 d12_18 rfl rfl rfl <| oG 22 X4 (w25 G) Via.refl ((sg15 G).ext X4.old.2) d12_19 rfl ?_
  intro _ X6
  refine on 25 X6 d12_22 rfl ((if0 _ _).trans (feq (hzc G)).1) <| oA 26 X6 d12_25 rfl rfl ?_
  have f7 := (C_su3 G).ext X6.old.2
  refine oF 29 X6 (w26 G) Via.refl f7 d12_26 rfl ?_
  intro _ X9
  refine oA 30 X9 d12_29 rfl rfl <| oF 33 X9 (w26 G) Via.refl F1 d12_30 rfl ?_
  intro _ X11
  refine oN 36 X11 d12_33 rfl (teq pc_0).2 <| oA 37 X11 d12_36 rfl rfl ?_
  have f12 := (F_su3 G).ext X11.old.2
  refine oF 40 X11 (w19 G) Via.refl f12 d12_37 rfl ?_
  intro _ X14
  refine oA 41 X14 d12_40 rfl rfl <| oF 44 X14 (w19 G) Via.refl F2 d12_41 rfl ?_
  intro _ X16
  refine mS 47 0 X16 (rm_eqB_a G F3) (u9 G) all0 d12_44 rfl rfl rfl lr (by decide) all0 ?_
  rintro _ _ _ _ X17 rfl _ _ _
  refine oy 54 X17 d12_47 (by decide) ((if0 _ _).trans (teq pc_k0).1) <| oc 55 (v := 0) X17 d12_54 rfl (by decide) ?_
  exact o_nret (y := (0 : Int32)) (t := .boolean) X17 d12_55 rfl (by decide) (by simp) (by decide) (by decide) (fun _ CC => rfl)
theorem rm_au93 (F0 : ex0 Z h0 pa1) (F1 : fd0 Z h0 pa1 (.int 0)) (F2 : fd1 Z h0 pa1 (.ref pa2)) (F3 : av0 Z h0 pa2 pk1 21 [.int pi1, .int pi2, .int pi3, .int pi4, .int pi5, .int pi6, .int pi7, .int pi8, .int pi9, .int pi10, .int pi11, .int pi12, .int pi13, .int pi14, .int pi15, .int pi16, .int pi17, .int pi18, .int pi19, .int pi20, .int pi21]) (pc_k0 : (oEq [pi1, pi2, pi3, pi4, pi5, pi6, pi7, pi8, pi9, pi10, pi11, pi12, pi13, pi14, pi15, pi16, pi17, pi18, pi19, pi20, pi21] [114, 111, 108, 101, 45, 97, 110, 100, 45, 115, 117, 98, 111, 114, 100, 105, 110, 97, 116, 101, 115]) = (0 : Int32)) (ne : NE su1 pa1 ∧ NE su2 pa1 ∧ NE su3 pa1 ∧ NE su4 pa1) : M13 G 2 1 4 28 #[.ref pa1] h0 n0 [] [] (Q15 Z oem h0) := by
  refine mi B13 ef7 (hEW G) fun s X0 hsf0 n0le => ?_
  have := F0.l
  have := F3.l
  have gl_su1 := ltg_su1 G X0.old
  have gl_su2 := ltg_su2 G X0.old
  have gl_su3 := ltg_su3 G X0.old
  have gl_su4 := ltg_su4 G X0.old
  refine mS 3 0 X0 (rm_au15 G ) (u12 G) all0 d13_0 rfl rfl rfl lr (by decide) all0 ?_
  rintro _ _ _ _ X1 ⟨xa1_2, rfl, q3, _, _⟩ K1 _ _
  refine oV 4 (l' := #[rr pa1, rr xa1_2, uu, uu, uu]) X1 d13_3 rfl rfl rfl <| oA 5 X1 d13_4 rfl rfl <| oL 6 X1 q3 d13_5 rfl <| oT 7 (l' := #[rr pa1, rr xa1_2, ii 4, uu, uu]) X1 d13_6 rfl rfl <| oc 8 (v := 0) X1 d13_7 rfl (by decide) <| oT 9 (l' := #[rr pa1, rr xa1_2, ii 4, ii 0, uu]) X1 d13_8 rfl rfl <| oI 10 X1 d13_9 rfl rfl <| oI 11 X1 d13_10 rfl rfl <| oN 14 X1 d13_11 rfl (tlt (by decide)).2.1 <| oA 15 X1 d13_14 rfl rfl <| oI 16 X1 d13_15 rfl rfl <| o_aaload 17 (v := (.ref ku1)) X1 q3 rfl ⟨by decide, by decide⟩ rfl d13_16 rfl ?_
  refine oU 19 (l' := #[rr pa1, rr xa1_2, ii 4, ii 0, rr ku1]) X1 d13_17 rfl rfl rfl <| oa 21 X1 d13_19 rfl rfl ?_
  have f6 := (F_ku1 G).ext X1.old.2
  refine oF 24 X1 (w111 G) Via.refl f6 d13_21 rfl ?_
  intro _ X8
  refine oA 25 X8 d13_24 rfl rfl ?_
  have f9 := (C_su1 G).ext X8.old.2
  have f10 := (F_su1 G).ext X8.old.2
  have f11 := F0.keep K1
  have f12 := F1.k0 K1
  have f13 := F2.k0 K1
  have f14 := (sg0 G).ext X8.old.2
  have f15 := F3.k0 K1
  have f16 := (sg10 G).ext X8.old.2
  refine mV 28 0 X8 f16 (rm_au13 G f9 f10 f11 f12 f13 f14 f15 (by decide) (by decide) (by omega)) (u13 G) all0 d13_25 rfl rfl rfl lr (by decide) all0 ?_
  rintro _ _ _ _ X17 rfl K17 _ _
  refine oy 37 X17 d13_28 (by decide) ((if0 _ _).trans (teq (by decide)).1) <| oJ 40 1 #[rr pa1, rr xa1_2, ii 4, ii 1, rr ku1] X17 d13_37 rfl rfl (by decide) rfl <| og 9 X17 d13_40 (by decide) <| oI 10 X17 d13_9 rfl rfl <| oI 11 X17 d13_10 rfl rfl <| oN 14 X17 d13_11 rfl (tlt (by decide)).2.1 <| oA 15 X17 d13_14 rfl rfl <| oI 16 X17 d13_15 rfl rfl ?_
  have f18 := q3.k0 K17
  refine o_aaload 17 (v := (.ref ku2)) X17 f18 rfl ⟨by decide, by decide⟩ rfl d13_16 rfl <| oU 19 (l' := #[rr pa1, rr xa1_2, ii 4, ii 1, rr ku2]) X17 d13_17 rfl rfl rfl <| oa 21 X17 d13_19 rfl rfl ?_
  have f19 := (F_ku2 G).ext X17.old.2
  refine oF 24 X17 (w111 G) Via.refl f19 d13_21 rfl ?_
  intro _ X21
  refine oA 25 X21 d13_24 rfl rfl ?_
  have f22 := (C_su2 G).ext X21.old.2
  have f23 := (F_su2 G).ext X21.old.2
  have f24 := f11.keep K17
  have f25 := f12.k0 K17
  have f26 := f13.k0 K17
  have f27 := (sg1 G).ext X21.old.2
  have f28 := f15.k0 K17
  have f29 := (sg11 G).ext X21.old.2
  refine mV 28 0 X21 f29 (rm_au13 G f22 f23 f24 f25 f26 f27 f28 (by decide) (by decide) (by omega)) (u13 G) all0 d13_25 rfl rfl rfl lr (by decide) all0 ?_
  rintro _ _ _ _ X30 rfl K30 _ _
  refine oy 37 X30 d13_28 (by decide) ((if0 _ _).trans (teq (by decide)).1) <| oJ 40 2 #[rr pa1, rr xa1_2, ii 4, ii 2, rr ku2] X30 d13_37 rfl rfl (by decide) rfl <| og 9 X30 d13_40 (by decide) <| oI 10 X30 d13_9 rfl rfl <| oI 11 X30 d13_10 rfl rfl <| oN 14 X30 d13_11 rfl (tlt (by decide)).2.1 <| oA 15 X30 d13_14 rfl rfl <| oI 16 X30 d13_15 rfl rfl ?_
  have f31 := f18.k0 K30
  refine o_aaload 17 (v := (.ref ku3)) X30 f31 rfl ⟨by decide, by decide⟩ rfl d13_16 rfl <| oU 19 (l' := #[rr pa1, rr xa1_2, ii 4, ii 2, rr ku3]) X30 d13_17 rfl rfl rfl <| oa 21 X30 d13_19 rfl rfl ?_
  have f32 := (F_ku3 G).ext X30.old.2
  refine oF 24 X30 (w111 G) Via.refl f32 d13_21 rfl ?_
  intro _ X34
  refine oA 25 X34 d13_24 rfl rfl ?_
  have f35 := f24.keep K30
  have f36 := f25.k0 K30
  have f37 := f26.k0 K30
  have f38 := f28.k0 K30
  have f39 := (sg12 G).ext X34.old.2
  refine mV 28 0 X34 f39 (rm_au92 G f35 f36 f37 f38 pc_k0 (by decide) (by omega)) (u13 G) all0 d13_25 rfl rfl rfl lr (by decide) all0 ?_
  rintro _ _ _ _ X40 rfl K40 _ _
  refine oy 37 X40 d13_28 (by decide) ((if0 _ _).trans (teq (by decide)).1) <| oJ 40 3 #[rr pa1, rr xa1_2, ii 4, ii 3, rr ku3] X40 d13_37 rfl rfl (by decide) rfl <| og 9 X40 d13_40 (by decide) <| oI 10 X40 d13_9 rfl rfl <| oI 11 X40 d13_10 rfl rfl <| oN 14 X40 d13_11 rfl (tlt (by decide)).2.1 <| oA 15 X40 d13_14 rfl rfl <| oI 16 X40 d13_15 rfl rfl ?_
  have f41 := f31.k0 K40
  refine o_aaload 17 (v := (.ref ku4)) X40 f41 rfl ⟨by decide, by decide⟩ rfl d13_16 rfl <| oU 19 (l' := #[rr pa1, rr xa1_2, ii 4, ii 3, rr ku4]) X40 d13_17 rfl rfl rfl <| oa 21 X40 d13_19 rfl rfl ?_
  have f42 := (F_ku4 G).ext X40.old.2
  refine oF 24 X40 (w111 G) Via.refl f42 d13_21 rfl ?_
  intro _ X44
  refine oA 25 X44 d13_24 rfl rfl ?_
  have f45 := (C_su4 G).ext X44.old.2
  have f46 := (F_su4 G).ext X44.old.2
  have f47 := f35.keep K40
  have f48 := f36.k0 K40
  have f49 := f37.k0 K40
  have f50 := (sg3 G).ext X44.old.2
  have f51 := f38.k0 K40
  have f52 := (sg13 G).ext X44.old.2
  refine mV 28 0 X44 f52 (rm_au13 G f45 f46 f47 f48 f49 f50 f51 (by decide) (by decide) (by omega)) (u13 G) all0 d13_25 rfl rfl rfl lr (by decide) all0 ?_
  rintro _ _ _ _ X53 rfl _ _ _
  refine oy 37 X53 d13_28 (by decide) ((if0 _ _).trans (teq (by decide)).1) <| oJ 40 4 #[rr pa1, rr xa1_2, ii 4, ii 4, rr ku4] X53 d13_37 rfl rfl (by decide) rfl <| og 9 X53 d13_40 (by decide) <| oI 10 X53 d13_9 rfl rfl <| oI 11 X53 d13_10 rfl rfl <| oY 43 X53 d13_11 (by decide) (flt (by decide)).2.1 <| mS 46 0 X53 (rm_au16 G ) (u14 G) all0 d13_43 rfl rfl rfl lr (by decide) all0 ?_
  rintro _ _ _ _ X54 rfl _ _ _
  exact oR X54 d13_46 rfl rfl rfl (by decide) (by decide) (fun _ CC => rfl)
theorem rm_au94 (F0 : fd0 Z h0 pa1 (.int pi100)) (F1 : fd1 Z h0 pa1 (.ref pa3)) (F2 : ex0 Z h0 pa2) (F3 : fd0 Z h0 pa2 (.int pi101)) (F4 : fd1 Z h0 pa2 (.ref pa4)) (F5 : av0 Z h0 pa3 pk1 21 [.int pi1, .int pi2, .int pi3, .int pi4, .int pi5, .int pi6, .int pi7, .int pi8, .int pi9, .int pi10, .int pi11, .int pi12, .int pi13, .int pi14, .int pi15, .int pi16, .int pi17, .int pi18, .int pi19, .int pi20, .int pi21]) (F6 : av0 Z h0 pa4 pk2 21 [.int 114, .int 111, .int 108, .int 101, .int 45, .int 97, .int 110, .int 100, .int 45, .int 115, .int 117, .int 98, .int 111, .int 114, .int 100, .int 105, .int 110, .int 97, .int 116, .int 101, .int 115]) (pc_k0 : ¬ (oEq [pi1, pi2, pi3, pi4, pi5, pi6, pi7, pi8, pi9, pi10, pi11, pi12, pi13, pi14, pi15, pi16, pi17, pi18, pi19, pi20, pi21] [114, 111, 108, 101, 45, 97, 110, 100, 45, 115, 117, 98, 111, 114, 100, 105, 110, 97, 116, 101, 115]) = (0 : Int32)) (pc_0 : pi100 = pi101) (ne : NE pa1 pa2) : M12 G 1 0 0 14 #[.ref pa1, .ref pa2] h0 n0 [] [] (Q3 Z  h0) := by
  refine mi B12 ef5 (hEW G) fun s X0 hsf0 n0le => ?_
  have := F0.l
  have := F2.l
  have := F5.l
  have := F6.l
  refine oA 1 X0 d12_0 rfl rfl <| oA 2 X0 d12_1 rfl rfl <| o_acmp 7 (same := false) X0 d12_2 rfl rfl (decide_eq_false (fun q => absurd (Value.ref.inj q) (own_ne (by omega)))) (by decide) (by decide) <| oA 8 X0 d12_7 rfl rfl <| o_instY 11 X0 (w81 G) (Ins.self F2) d12_8 rfl ?_
  intro _ X2
  refine on 14 X2 d12_11 rfl ((if0 _ _).trans (feq (by decide)).1) <| oA 15 X2 d12_14 rfl rfl <| o_castY 18 X2 (w81 G) (Ins.self F2) d12_15 rfl ?_
  intro _ X4
  refine oV 19 (l' := #[rr pa1, rr pa2, rr pa2]) X4 d12_18 rfl rfl rfl <| oG 22 X4 (w25 G) Via.refl ((sg15 G).ext X4.old.2) d12_19 rfl ?_
  intro _ X6
  refine on 25 X6 d12_22 rfl ((if0 _ _).trans (feq (hzc G)).1) <| oA 26 X6 d12_25 rfl rfl <| oF 29 X6 (w26 G) Via.refl F0 d12_26 rfl ?_
  intro _ X8
  refine oA 30 X8 d12_29 rfl rfl <| oF 33 X8 (w26 G) Via.refl F3 d12_30 rfl ?_
  intro _ X10
  refine oN 36 X10 d12_33 rfl (teq pc_0).2 <| oA 37 X10 d12_36 rfl rfl <| oF 40 X10 (w19 G) Via.refl F1 d12_37 rfl ?_
  intro _ X12
  refine oA 41 X12 d12_40 rfl rfl <| oF 44 X12 (w19 G) Via.refl F4 d12_41 rfl ?_
  intro _ X14
  refine mS 47 0 X14 (rm_eqA_a G F5 F6) (u9 G) all0 d12_44 rfl rfl rfl lr (by decide) all0 ?_
  rintro _ _ _ _ X15 rfl _ _ _
  refine on 50 X15 d12_47 rfl ((if0 _ _).trans (feq pc_k0).1) <| oc 51 (v := 1) X15 d12_50 rfl (by decide) <| og 55 X15 d12_51 (by decide) ?_
  exact o_nret (y := (1 : Int32)) (t := .boolean) X15 d12_55 rfl (by decide) (by simp) (by decide) (by decide) (fun _ CC => rfl)
theorem rm_au95 (F0 : ex0 Z h0 pa1) (F1 : fd0 Z h0 pa1 (.int 0)) (F2 : fd1 Z h0 pa1 (.ref pa2)) (F3 : av0 Z h0 pa2 pk1 21 [.int pi1, .int pi2, .int pi3, .int pi4, .int pi5, .int pi6, .int pi7, .int pi8, .int pi9, .int pi10, .int pi11, .int pi12, .int pi13, .int pi14, .int pi15, .int pi16, .int pi17, .int pi18, .int pi19, .int pi20, .int pi21]) (F4 : ex3 Z h0 pa2) (pc_k0 : ¬ (oEq [pi1, pi2, pi3, pi4, pi5, pi6, pi7, pi8, pi9, pi10, pi11, pi12, pi13, pi14, pi15, pi16, pi17, pi18, pi19, pi20, pi21] [114, 111, 108, 101, 45, 97, 110, 100, 45, 115, 117, 98, 111, 114, 100, 105, 110, 97, 116, 101, 115]) = (0 : Int32)) : M11 G 2 8 152 28 #[.ref pa1] h0 n0 [] [pa1, pa2] (Q15 Z ku3 h0) := by
  have hw := G.1
  refine mi B11 ef3 (hEW G) fun s X0 hsf0 n0le => ?_
  have := F0.l
  have := F3.l
  have sf_pa1 := hsf0 pa1 (by simp)
  have sf_pa2 := hsf0 pa2 (by simp)
  refine oA 1 X0 d11_0 rfl rfl <| o_ldcC 3 (n := 16) (vs := own_bs ([117, 115, 101, 114] : List Int32)) (z := (4 : Int32)) X0 (w0 G) (hws_str hw) (by decide) ⟨by decide, rfl⟩ (by decide) (by decide) d11_1 rfl (by decide) (by decide) (by decide) (by decide) ?_
  intro a1 b1 kb1 _ h1 _ X1 E1 C1 Es1 Cs1 Vs1 As1 SF1
  have lta1 : h1.size > a1 := Es1.lt
  have ltb1 : h1.size > b1 := As1.lt
  have := E1.1
  have Bs1 : av0 Z h1 b1 kb1 4 [.int 117, .int 115, .int 101, .int 114] := As1
  have f3 := C1.safe (own_lt (by omega)) sf_pa1
  have := own_nes (SF1 pa1 f3)
  have f5 := C1.safe (own_lt (by omega)) sf_pa2
  have := own_nes (SF1 pa2 f5)
  have f6 := F1.ext E1
  have f7 := F2.ext E1
  have f8 := F3.ext E1
  have f9 := F0.ext E1
  refine mV 6 0 X1 f9 (rm_au13 G f6 f7 Es1 Cs1 Vs1 f8 Bs1 (by decide) (by decide) (by omega)) (u10 G) all0 d11_3 rfl rfl rfl lr (by decide) all0 ?_
  rintro _ _ _ _ X10 rfl K10 _ C10
  refine oy 13 X10 d11_6 (by decide) ((if0 _ _).trans (teq (by decide)).1) <| oA 14 X10 d11_13 rfl rfl <| o_ldcC 16 (n := 16) (vs := own_bs ([114, 111, 108, 101] : List Int32)) (z := (4 : Int32)) X10 (w85 G) (hws_str hw) (by decide) ⟨by decide, rfl⟩ (by decide) (by decide) d11_14 rfl (by decide) (by decide) (by decide) (by decide) ?_
  intro a11 b11 kb11 _ h11 _ X11 E11 C11 Es11 Cs11 Vs11 As11 SF11
  have lta11 : h11.size > a11 := Es11.lt
  have ltb11 : h11.size > b11 := As11.lt
  have := E11.1
  have Bs11 : av0 Z h11 b11 kb11 4 [.int 114, .int 111, .int 108, .int 101] := As11
  have f13 := C11.safe (own_lt (by omega)) (C10.safe (own_lt (by omega)) f3)
  have := own_nes (SF11 pa1 f13)
  have f15 := C11.safe (own_lt (by omega)) (C10.safe (own_lt (by omega)) f5)
  have := own_nes (SF11 pa2 f15)
  have f16 := (f6.k0 K10).ext E11
  have f17 := (f7.k0 K10).ext E11
  have f18 := (f8.k0 K10).ext E11
  have f19 := (f9.keep K10).ext E11
  refine mV 19 0 X11 f19 (rm_au13 G f16 f17 Es11 Cs11 Vs11 f18 Bs11 (by decide) (by decide) (by omega)) (u10 G) all0 d11_16 rfl rfl rfl lr (by decide) all0 ?_
  rintro _ _ _ _ X20 rfl K20 _ C20
  refine oy 26 X20 d11_19 (by decide) ((if0 _ _).trans (teq (by decide)).1) <| oA 27 X20 d11_26 rfl rfl <| o_ldcC 29 (n := 20) (vs := own_bs ([103, 114, 111, 117, 112] : List Int32)) (z := (5 : Int32)) X20 (w86 G) (hws_str hw) (by decide) ⟨by decide, rfl⟩ (by decide) (by decide) d11_27 rfl (by decide) (by decide) (by decide) (by decide) ?_
  intro a21 b21 kb21 _ h21 _ X21 E21 C21 Es21 Cs21 Vs21 As21 SF21
  have lta21 : h21.size > a21 := Es21.lt
  have ltb21 : h21.size > b21 := As21.lt
  have := E21.1
  have Bs21 : av0 Z h21 b21 kb21 5 [.int 103, .int 114, .int 111, .int 117, .int 112] := As21
  have f23 := (((Vs1.k0 K10).ext E11).k0 K20).ext E21
  have f24 := (((Bs1.k0 K10).ext E11).k0 K20).ext E21
  have := own_neL f23 f24 Vs21 As21 (by decide)
  have f26 := (Vs11.k0 K20).ext E21
  have f27 := (Bs11.k0 K20).ext E21
  have := own_neL f26 f27 Vs21 As21 (by decide)
  have f29 := C21.safe (own_lt (by omega)) (C20.safe (own_lt (by omega)) f13)
  have := own_nes (SF21 pa1 f29)
  have f31 := C21.safe (own_lt (by omega)) (C20.safe (own_lt (by omega)) f15)
  have := own_nes (SF21 pa2 f31)
  have f32 := (f16.k0 K20).ext E21
  have f33 := (f17.k0 K20).ext E21
  have f34 := (f18.k0 K20).ext E21
  have f35 := (f19.keep K20).ext E21
  refine mV 32 0 X21 f35 (rm_au13 G f32 f33 Es21 Cs21 Vs21 f34 Bs21 (by decide) (by decide) (by omega)) (u10 G) all0 d11_29 rfl rfl rfl lr (by decide) all0 ?_
  rintro _ _ _ _ X36 rfl K36 _ C36
  refine oy 39 X36 d11_32 (by decide) ((if0 _ _).trans (teq (by decide)).1) <| oA 40 X36 d11_39 rfl rfl <| o_ldcC 42 (n := 84) (vs := own_bs ([114, 111, 108, 101, 45, 97, 110, 100, 45, 115, 117, 98, 111, 114, 100, 105, 110, 97, 116, 101, 115] : List Int32)) (z := (21 : Int32)) X36 (w87 G) (hws_str hw) (by decide) ⟨by decide, rfl⟩ (by decide) (by decide) d11_40 rfl (by decide) (by decide) (by decide) (by decide) ?_
  intro a37 b37 kb37 _ h37 _ X37 E37 C37 Es37 Cs37 Vs37 As37 SF37
  have lta37 : h37.size > a37 := Es37.lt
  have ltb37 : h37.size > b37 := As37.lt
  have := E37.1
  have Bs37 : av0 Z h37 b37 kb37 21 [.int 114, .int 111, .int 108, .int 101, .int 45, .int 97, .int 110, .int 100, .int 45, .int 115, .int 117, .int 98, .int 111, .int 114, .int 100, .int 105, .int 110, .int 97, .int 116, .int 101, .int 115] := As37
  have f39 := (f23.k0 K36).ext E37
  have f40 := (f24.k0 K36).ext E37
  have := own_neL f39 f40 Vs37 As37 (by decide)
  have f42 := (f26.k0 K36).ext E37
  have f43 := (f27.k0 K36).ext E37
  have := own_neL f42 f43 Vs37 As37 (by decide)
  have f45 := (Vs21.k0 K36).ext E37
  have f46 := (Bs21.k0 K36).ext E37
  have := own_neL f45 f46 Vs37 As37 (by decide)
  have f48 := C37.safe (own_lt (by omega)) (C36.safe (own_lt (by omega)) f29)
  have := own_nes (SF37 pa1 f48)
  have f50 := C37.safe (own_lt (by omega)) (C36.safe (own_lt (by omega)) f31)
  have := own_nes (SF37 pa2 f50)
  have f51 := (f32.k0 K36).ext E37
  have f52 := (f33.k0 K36).ext E37
  have f53 := (f34.k0 K36).ext E37
  have f54 := (f35.keep K36).ext E37
  refine mV 45 0 X37 f54 (rm_au94 G f51 f52 Es37 Cs37 Vs37 f53 Bs37 pc_k0 (by decide) (by omega)) (u10 G) all0 d11_42 rfl rfl rfl lr (by decide) all0 ?_
  rintro _ _ _ _ X55 rfl _ _ _
  refine on 48 X55 d11_45 rfl ((if0 _ _).trans (feq (by decide)).1) <| oG 51 X55 (w145 G) Via.refl ((sg19 G).ext X55.old.2) d11_48 rfl ?_
  intro _ X57
  exact oR X57 d11_51 rfl rfl rfl (by decide) (by decide) (fun _ CC => rfl)
theorem rm_au96 (F0 : ex0 Z h0 pa1) (F1 : fd0 Z h0 pa1 (.int pi100)) (F2 : fd1 Z h0 pa1 (.ref pa2)) (F3 : av0 Z h0 pa2 pk1 21 [.int pi1, .int pi2, .int pi3, .int pi4, .int pi5, .int pi6, .int pi7, .int pi8, .int pi9, .int pi10, .int pi11, .int pi12, .int pi13, .int pi14, .int pi15, .int pi16, .int pi17, .int pi18, .int pi19, .int pi20, .int pi21]) (pc_k0 : ¬ (oEq [pi1, pi2, pi3, pi4, pi5, pi6, pi7, pi8, pi9, pi10, pi11, pi12, pi13, pi14, pi15, pi16, pi17, pi18, pi19, pi20, pi21] [114, 111, 108, 101, 45, 97, 110, 100, 45, 115, 117, 98, 111, 114, 100, 105, 110, 97, 116, 101, 115]) = (0 : Int32)) (pc_0 : (0 : Int32) = pi100) (ne : NE su3 pa1) : M12 G 1 0 0 14 #[.ref su3, .ref pa1] h0 n0 [] [] (Q3 Z  h0) := by
  refine mi B12 ef5 (hEW G) fun s X0 hsf0 n0le => ?_
  have := F0.l
  have := F3.l
  have gl_su3 := ltg_su3 G X0.old
  refine oA 1 X0 d12_0 rfl rfl <| oA 2 X0 d12_1 rfl rfl <| o_acmp 7 (same := false) X0 d12_2 rfl rfl (decide_eq_false (fun q => absurd (Value.ref.inj q) (own_ne (by omega)))) (by decide) (by decide) <| oA 8 X0 d12_7 rfl rfl <| o_instY 11 X0 (w81 G) (Ins.self F0) d12_8 rfl ?_
  intro _ X2
  refine on 14 X2 d12_11 rfl ((if0 _ _).trans (feq (by decide)).1) <| oA 15 X2 d12_14 rfl rfl <| o_castY 18 X2 (w81 G) (Ins.self F0) d12_15 rfl ?_
  intro _ X4
  refine oV 19 (l' := #[rr su3, rr pa1, rr pa1]) X4 d12_18 rfl rfl rfl <| oG 22 X4 (w25 G) Via.refl ((sg15 G).ext X4.old.2) d12_19 rfl ?_
  intro _ X6
  refine on 25 X6 d12_22 rfl ((if0 _ _).trans (feq (hzc G)).1) <| oA 26 X6 d12_25 rfl rfl ?_
  have f7 := (C_su3 G).ext X6.old.2
  refine oF 29 X6 (w26 G) Via.refl f7 d12_26 rfl ?_
  intro _ X9
  refine oA 30 X9 d12_29 rfl rfl <| oF 33 X9 (w26 G) Via.refl F1 d12_30 rfl ?_
  intro _ X11
  refine oN 36 X11 d12_33 rfl (teq pc_0).2 <| oA 37 X11 d12_36 rfl rfl ?_
  have f12 := (F_su3 G).ext X11.old.2
  refine oF 40 X11 (w19 G) Via.refl f12 d12_37 rfl ?_
  intro _ X14
  refine oA 41 X14 d12_40 rfl rfl <| oF 44 X14 (w19 G) Via.refl F2 d12_41 rfl ?_
  intro _ X16
  refine mS 47 0 X16 (rm_eqB_a G F3) (u9 G) all0 d12_44 rfl rfl rfl lr (by decide) all0 ?_
  rintro _ _ _ _ X17 rfl _ _ _
  refine on 50 X17 d12_47 rfl ((if0 _ _).trans (feq pc_k0).1) <| oc 51 (v := 1) X17 d12_50 rfl (by decide) <| og 55 X17 d12_51 (by decide) ?_
  exact o_nret (y := (1 : Int32)) (t := .boolean) X17 d12_55 rfl (by decide) (by simp) (by decide) (by decide) (fun _ CC => rfl)
theorem rm_au97  : M23 G 0 0 0 0 #[.ref ku3] h0 n0 [] [] (Q15 Z ku3 h0) := by
  refine mi B23 ef3 (hEW G) fun s X0 hsf0 n0le => ?_
  refine oA 1 X0 d23_0 rfl rfl <| ifnonnullYesJ 12 X0 d23_1 (by decide) <| oA 13 X0 d23_12 rfl rfl ?_
  exact oR X0 d23_13 rfl rfl rfl (by decide) (by decide) (fun _ CC => rfl)
theorem rm_au98 (F0 : ex4 Z h0 pa1) (F1 : fd2 Z h0 pa1 .null) (ne : n0 ≤ pa1) : M24 G 1 0 0 12 #[.ref pa1, .ref ku3] h0 n0 [pa1] [] (Q24 Z pa1 ku3 h0) := by
  refine mi B24 ef11 (hEW G) fun s X0 hsf0 n0le => ?_
  have := F0.l
  refine oA 1 X0 d24_0 rfl rfl <| o_initO 4 (W := 0) X0 (w140 G) (w61 G) (w62 G) rfl (by decide) (Nat.le_of_eq rfl) (by decide) d24_1 rfl ?_
  intro _ X2
  refine oA 5 X2 d24_4 rfl rfl <| oA 6 X2 d24_5 rfl rfl <| oP 9 (v' := (.ref ku3)) X2 (w124 G) Via.refl F1 F0 (Or.inr ⟨(w125 G), rfl, rfl⟩) (w131 G) fd_2 rfl rfl d24_6 rfl (by omega) (Or.inl (by simp)) (sx X2 F0 nc1) ?_
  intro _ _ X3 W3 _
  have := W3.size
  have f4 := F1.same W3
  have f5 := F0.wr W3
  exact oz X3 d24_9 rfl (by decide) (by decide) (fun _ CC => ⟨rfl, f5, f4⟩)
theorem rm_au99  : M22 G 2 1 1 26 #[.ref ku3] h0 n0 [] [] (Q25 Z ku3 h0) := by
  refine mi B22 ef3 (hEW G) fun s X0 hsf0 n0le => ?_
  refine o_new 3 X0 (w130 G) (w131 G) (w116 G) d22_0 rfl (by decide) (by decide) ?_
  intro _ h1 b1 X1 _ _ _ A1 D1 _ _ _
  have f2 : fd2 Z h1 b1 .null := D1 (Or.inr (w125 G)) fd_2
  refine oD 4 X1 d22_3 rfl rfl <| oA 5 X1 d22_4 rfl rfl <| mS 8 2 X1 (rm_au97 G ) (u22 G) all0 d22_5 rfl rfl rfl lr (by decide) all0 ?_
  rintro _ _ _ _ X3 rfl K3 _ _
  have f4 := A1.keep K3
  have f5 := f2.k0 K3
  refine mP 11 1 X3 (rm_au98 G f4 f5 (by omega)) (u23 G) all0 d22_8 rfl rfl rfl lr (by decide) (aR (by omega) all0) ?_
  rintro _ _ _ _ X6 ⟨rfl, q7, q8⟩ _ _ _
  exact oR X6 d22_11 rfl rfl rfl (by decide) (by decide) (fun _ CC => ⟨b1, rfl, q7, q8, by omega⟩)
theorem rm_au100 (F0 : ex0 Z h0 pa1) (F1 : fd0 Z h0 pa1 (.int 0)) (F2 : fd1 Z h0 pa1 (.ref pa2)) (F3 : av0 Z h0 pa2 pk1 21 [.int pi1, .int pi2, .int pi3, .int pi4, .int pi5, .int pi6, .int pi7, .int pi8, .int pi9, .int pi10, .int pi11, .int pi12, .int pi13, .int pi14, .int pi15, .int pi16, .int pi17, .int pi18, .int pi19, .int pi20, .int pi21]) (pc_k0 : ¬ (oEq [pi1, pi2, pi3, pi4, pi5, pi6, pi7, pi8, pi9, pi10, pi11, pi12, pi13, pi14, pi15, pi16, pi17, pi18, pi19, pi20, pi21] [114, 111, 108, 101, 45, 97, 110, 100, 45, 115, 117, 98, 111, 114, 100, 105, 110, 97, 116, 101, 115]) = (0 : Int32)) (ne : NE su1 pa1 ∧ NE su2 pa1 ∧ NE su3 pa1) : M13 G 3 2 5 38 #[.ref pa1] h0 n0 [] [] (Q25 Z ku3 h0) := by
  refine mi B13 ef7 (hEW G) fun s X0 hsf0 n0le => ?_
  have := F0.l
  have := F3.l
  have gl_su1 := ltg_su1 G X0.old
  have gl_su2 := ltg_su2 G X0.old
  have gl_su3 := ltg_su3 G X0.old
  refine mS 3 0 X0 (rm_au15 G ) (u12 G) all0 d13_0 rfl rfl rfl lr (by decide) all0 ?_
  rintro _ _ _ _ X1 ⟨xa1_2, rfl, q3, _, _⟩ K1 _ _
  refine oV 4 (l' := #[rr pa1, rr xa1_2, uu, uu, uu]) X1 d13_3 rfl rfl rfl <| oA 5 X1 d13_4 rfl rfl <| oL 6 X1 q3 d13_5 rfl <| oT 7 (l' := #[rr pa1, rr xa1_2, ii 4, uu, uu]) X1 d13_6 rfl rfl <| oc 8 (v := 0) X1 d13_7 rfl (by decide) <| oT 9 (l' := #[rr pa1, rr xa1_2, ii 4, ii 0, uu]) X1 d13_8 rfl rfl <| oI 10 X1 d13_9 rfl rfl <| oI 11 X1 d13_10 rfl rfl <| oN 14 X1 d13_11 rfl (tlt (by decide)).2.1 <| oA 15 X1 d13_14 rfl rfl <| oI 16 X1 d13_15 rfl rfl <| o_aaload 17 (v := (.ref ku1)) X1 q3 rfl ⟨by decide, by decide⟩ rfl d13_16 rfl ?_
  refine oU 19 (l' := #[rr pa1, rr xa1_2, ii 4, ii 0, rr ku1]) X1 d13_17 rfl rfl rfl <| oa 21 X1 d13_19 rfl rfl ?_
  have f6 := (F_ku1 G).ext X1.old.2
  refine oF 24 X1 (w111 G) Via.refl f6 d13_21 rfl ?_
  intro _ X8
  refine oA 25 X8 d13_24 rfl rfl ?_
  have f9 := (C_su1 G).ext X8.old.2
  have f10 := (F_su1 G).ext X8.old.2
  have f11 := F0.keep K1
  have f12 := F1.k0 K1
  have f13 := F2.k0 K1
  have f14 := (sg0 G).ext X8.old.2
  have f15 := F3.k0 K1
  have f16 := (sg10 G).ext X8.old.2
  refine mV 28 0 X8 f16 (rm_au13 G f9 f10 f11 f12 f13 f14 f15 (by decide) (by decide) (by omega)) (u13 G) all0 d13_25 rfl rfl rfl lr (by decide) all0 ?_
  rintro _ _ _ _ X17 rfl K17 _ _
  refine oy 37 X17 d13_28 (by decide) ((if0 _ _).trans (teq (by decide)).1) <| oJ 40 1 #[rr pa1, rr xa1_2, ii 4, ii 1, rr ku1] X17 d13_37 rfl rfl (by decide) rfl <| og 9 X17 d13_40 (by decide) <| oI 10 X17 d13_9 rfl rfl <| oI 11 X17 d13_10 rfl rfl <| oN 14 X17 d13_11 rfl (tlt (by decide)).2.1 <| oA 15 X17 d13_14 rfl rfl <| oI 16 X17 d13_15 rfl rfl ?_
  have f18 := q3.k0 K17
  refine o_aaload 17 (v := (.ref ku2)) X17 f18 rfl ⟨by decide, by decide⟩ rfl d13_16 rfl <| oU 19 (l' := #[rr pa1, rr xa1_2, ii 4, ii 1, rr ku2]) X17 d13_17 rfl rfl rfl <| oa 21 X17 d13_19 rfl rfl ?_
  have f19 := (F_ku2 G).ext X17.old.2
  refine oF 24 X17 (w111 G) Via.refl f19 d13_21 rfl ?_
  intro _ X21
  refine oA 25 X21 d13_24 rfl rfl ?_
  have f22 := (C_su2 G).ext X21.old.2
  have f23 := (F_su2 G).ext X21.old.2
  have f24 := f11.keep K17
  have f25 := f12.k0 K17
  have f26 := f13.k0 K17
  have f27 := (sg1 G).ext X21.old.2
  have f28 := f15.k0 K17
  have f29 := (sg11 G).ext X21.old.2
  refine mV 28 0 X21 f29 (rm_au13 G f22 f23 f24 f25 f26 f27 f28 (by decide) (by decide) (by omega)) (u13 G) all0 d13_25 rfl rfl rfl lr (by decide) all0 ?_
  rintro _ _ _ _ X30 rfl K30 _ _
  refine oy 37 X30 d13_28 (by decide) ((if0 _ _).trans (teq (by decide)).1) <| oJ 40 2 #[rr pa1, rr xa1_2, ii 4, ii 2, rr ku2] X30 d13_37 rfl rfl (by decide) rfl <| og 9 X30 d13_40 (by decide) <| oI 10 X30 d13_9 rfl rfl <| oI 11 X30 d13_10 rfl rfl <| oN 14 X30 d13_11 rfl (tlt (by decide)).2.1 <| oA 15 X30 d13_14 rfl rfl <| oI 16 X30 d13_15 rfl rfl ?_
  have f31 := f18.k0 K30
  refine o_aaload 17 (v := (.ref ku3)) X30 f31 rfl ⟨by decide, by decide⟩ rfl d13_16 rfl <| oU 19 (l' := #[rr pa1, rr xa1_2, ii 4, ii 2, rr ku3]) X30 d13_17 rfl rfl rfl <| oa 21 X30 d13_19 rfl rfl ?_
  have f32 := (F_ku3 G).ext X30.old.2
  refine oF 24 X30 (w111 G) Via.refl f32 d13_21 rfl ?_
  intro _ X34
  refine oA 25 X34 d13_24 rfl rfl ?_
  have f35 := f24.keep K30
  have f36 := f25.k0 K30
  have f37 := f26.k0 K30
  have f38 := f28.k0 K30
  have f39 := (sg12 G).ext X34.old.2
  refine mV 28 0 X34 f39 (rm_au96 G f35 f36 f37 f38 pc_k0 (by decide) (by omega)) (u13 G) all0 d13_25 rfl rfl rfl lr (by decide) all0 ?_
  rintro _ _ _ _ X40 rfl _ _ _
  refine on 31 X40 d13_28 rfl ((if0 _ _).trans (feq (by decide)).1) <| oa 33 X40 d13_31 rfl rfl <| mS 36 0 X40 (rm_au99 G ) (u24 G) all0 d13_33 rfl rfl rfl lr (by decide) all0 ?_
  rintro _ _ _ _ X41 ⟨xa1_42, rfl, q43, q44, _⟩ _ _ _
  exact oR X41 d13_36 rfl rfl rfl (by decide) (by decide) (fun _ CC => ⟨xa1_42, rfl, q43, q44, by omega⟩)
theorem rm_au101 (F0 : fd2 Z h0 pa1 (.ref ku3)) : M16 G 0 0 0 0 #[.ref pa1, .null] h0 n0 [] [] (Q15 Z ku3 h0) := by
  refine mi B16 ef10 (hEW G) fun s X0 hsf0 n0le => ?_
  have := F0.l
  refine oA 1 X0 d16_0 rfl rfl <| oF 4 X0 (w124 G) Via.refl F0 d16_1 rfl ?_
  intro _ X2
  refine o_ifnullNo 7 X2 d16_4 rfl <| oA 8 X2 d16_7 rfl rfl <| oF 11 X2 (w124 G) Via.refl F0 d16_8 rfl ?_
  intro _ X4
  refine og 15 X4 d16_11 (by decide) ?_
  exact oR X4 d16_15 rfl rfl rfl (by decide) (by decide) (fun _ CC => rfl)
def Q42 (Z : State) (b1 : Addr) (b2 : ClassId) (b3 b4 b5 b6 b7 b8 b9 b10 b11 b12 b13 b14 b15 b16 b17 b18 b19 b20 b21 b22 b23 b24 : Int32) (h0 : Heap) (v : Option Value) (h : Heap) (vm : Vm) : Prop := v = some (.int 22) ∧ av0 Z h b1 b2 22 [.int (b3.toInt8.toInt32), .int (b4.toInt8.toInt32), .int (b5.toInt8.toInt32), .int (b6.toInt8.toInt32), .int (b7.toInt8.toInt32), .int (b8.toInt8.toInt32), .int (b9.toInt8.toInt32), .int (b10.toInt8.toInt32), .int (b11.toInt8.toInt32), .int (b12.toInt8.toInt32), .int (b13.toInt8.toInt32), .int (b14.toInt8.toInt32), .int (b15.toInt8.toInt32), .int (b16.toInt8.toInt32), .int (b17.toInt8.toInt32), .int (b18.toInt8.toInt32), .int (b19.toInt8.toInt32), .int (b20.toInt8.toInt32), .int (b21.toInt8.toInt32), .int (b22.toInt8.toInt32), .int (b23.toInt8.toInt32), .int (b24.toInt8.toInt32)] ∧ ex3 Z h b1
theorem rm_au102 (F0 : av1 Z h0 pa1 pk1 22 [.int pi1, .int pi2, .int pi3, .int pi4, .int pi5, .int pi6, .int pi7, .int pi8, .int pi9, .int pi10, .int pi11, .int pi12, .int pi13, .int pi14, .int pi15, .int pi16, .int pi17, .int pi18, .int pi19, .int pi20, .int pi21, .int pi22]) (F1 : av0 Z h0 pa2 pk2 22 [i0, i0, i0, i0, i0, i0, i0, i0, i0, i0, i0, i0, i0, i0, i0, i0, i0, i0, i0, i0, i0, i0]) (F2 : ex3 Z h0 pa2) (rg_pi1 : ¬ pi1 < 0 ∧ ¬ (255 : Int32) < pi1) (rg_pi2 : ¬ pi2 < 0 ∧ ¬ (255 : Int32) < pi2) (rg_pi3 : ¬ pi3 < 0 ∧ ¬ (255 : Int32) < pi3) (rg_pi4 : ¬ pi4 < 0 ∧ ¬ (255 : Int32) < pi4) (rg_pi5 : ¬ pi5 < 0 ∧ ¬ (255 : Int32) < pi5) (rg_pi6 : ¬ pi6 < 0 ∧ ¬ (255 : Int32) < pi6) (rg_pi7 : ¬ pi7 < 0 ∧ ¬ (255 : Int32) < pi7) (rg_pi8 : ¬ pi8 < 0 ∧ ¬ (255 : Int32) < pi8) (rg_pi9 : ¬ pi9 < 0 ∧ ¬ (255 : Int32) < pi9) (rg_pi10 : ¬ pi10 < 0 ∧ ¬ (255 : Int32) < pi10) (rg_pi11 : ¬ pi11 < 0 ∧ ¬ (255 : Int32) < pi11) (rg_pi12 : ¬ pi12 < 0 ∧ ¬ (255 : Int32) < pi12) (rg_pi13 : ¬ pi13 < 0 ∧ ¬ (255 : Int32) < pi13) (rg_pi14 : ¬ pi14 < 0 ∧ ¬ (255 : Int32) < pi14) (rg_pi15 : ¬ pi15 < 0 ∧ ¬ (255 : Int32) < pi15) (rg_pi16 : ¬ pi16 < 0 ∧ ¬ (255 : Int32) < pi16) (rg_pi17 : ¬ pi17 < 0 ∧ ¬ (255 : Int32) < pi17) (rg_pi18 : ¬ pi18 < 0 ∧ ¬ (255 : Int32) < pi18) (rg_pi19 : ¬ pi19 < 0 ∧ ¬ (255 : Int32) < pi19) (rg_pi20 : ¬ pi20 < 0 ∧ ¬ (255 : Int32) < pi20) (rg_pi21 : ¬ pi21 < 0 ∧ ¬ (255 : Int32) < pi21) (rg_pi22 : ¬ pi22 < 0 ∧ ¬ (255 : Int32) < pi22) (ne : NE pa1 pa2 ∧ n0 ≤ pa2) : M20 G 0 0 0 0 #[.ref pa1, i0, .ref pa2, i0, .int 22] h0 n0 [pa2] [pa2] (Q42 Z pa2 pk2 pi1 pi2 pi3 pi4 pi5 pi6 pi7 pi8 pi9 pi10 pi11 pi12 pi13 pi14 pi15 pi16 pi17 pi18 pi19 pi20 pi21 pi22 h0) := by
  refine mi B20 ef14 (hEW G) fun s X0 hsf0 n0le => ?_
  have := F0.l
  have := F1.l
  have sf_pa2 := hsf0 pa2 (by simp)
  refine oc 1 (v := 0) X0 d20_0 rfl (by decide) <| oS 3 (l' := #[rr pa1, ii 0, rr pa2, ii 0, ii 22, ii 0, uu]) X0 d20_1 rfl rfl <| oi 5 X0 d20_3 rfl rfl <| oi 7 X0 d20_5 rfl rfl <| oN 10 X0 d20_7 rfl (tlt (by decide)).2.1 <| oA 11 X0 d20_10 rfl rfl <| oI 12 X0 d20_11 rfl rfl <| oC 13 (v := (.int pi1)) X0 F0 ⟨by decide, by decide⟩ rfl d20_12 rfl <| oS 15 (l' := #[rr pa1, ii 0, rr pa2, ii 0, ii 22, ii 0, ii pi1]) X0 d20_13 rfl rfl <| oi 17 X0 d20_15 rfl rfl <| o_sipush 20 (v := 255) X0 d20_17 rfl (by decide) <| oY 26 X0 d20_20 (by decide) (flt rg_pi1.2).2.2.2 ?_
  refine oA 27 X0 d20_26 rfl rfl <| oI 28 X0 d20_27 rfl rfl <| oi 30 X0 d20_28 rfl rfl <| o_i2b 31 (v := (pi1.toInt8.toInt32)) X0 d20_30 rfl rfl <| sB 32 0 (pi1.toInt8.toInt32) X0 F1 (by decide) (lb rfl) (own_narB _) d20_31 rfl (by omega) (Or.inl (by simp)) sf_pa2 ?_
  rintro _ _ X1 ⟨_, _, W1⟩ C1 V1
  have := W1.size
  have V2 := V1.as [.int (pi1.toInt8.toInt32), i0, i0, i0, i0, i0, i0, i0, i0, i0, i0, i0, i0, i0, i0, i0, i0, i0, i0, i0, i0, i0] rfl
  refine oJ 35 1 #[rr pa1, ii 1, rr pa2, ii 0, ii 22, ii 0, ii pi1] X1 d20_32 rfl rfl (by decide) rfl <| oJ 38 1 #[rr pa1, ii 1, rr pa2, ii 1, ii 22, ii 0, ii pi1] X1 d20_35 rfl rfl (by decide) rfl <| oJ 41 1 #[rr pa1, ii 1, rr pa2, ii 1, ii 22, ii 1, ii pi1] X1 d20_38 rfl rfl (by decide) rfl <| og 3 X1 d20_41 (by decide) <| oi 5 X1 d20_3 rfl rfl <| oi 7 X1 d20_5 rfl rfl <| oN 10 X1 d20_7 rfl (tlt (by decide)).2.1 <| oA 11 X1 d20_10 rfl rfl <| oI 12 X1 d20_11 rfl rfl ?_
  have f3 := F0.oth W1 (by omega)
  refine oC 13 (v := (.int pi2)) X1 f3 ⟨by decide, by decide⟩ rfl d20_12 rfl <| oS 15 (l' := #[rr pa1, ii 1, rr pa2, ii 1, ii 22, ii 1, ii pi2]) X1 d20_13 rfl rfl <| oi 17 X1 d20_15 rfl rfl <| o_sipush 20 (v := 255) X1 d20_17 rfl (by decide) <| oY 26 X1 d20_20 (by decide) (flt rg_pi2.2).2.2.2 <| oA 27 X1 d20_26 rfl rfl <| oI 28 X1 d20_27 rfl rfl <| oi 30 X1 d20_28 rfl rfl <| o_i2b 31 (v := (pi2.toInt8.toInt32)) X1 d20_30 rfl rfl ?_
  have f5 := C1.safe (own_lt (by omega)) sf_pa2
  refine sB 32 1 (pi2.toInt8.toInt32) X1 V2 (by decide) (lb rfl) (own_narB _) d20_31 rfl (by omega) (Or.inl (by simp)) f5 ?_
  rintro _ _ X4 ⟨_, _, W4⟩ C4 V4
  have := W4.size
  have V6 := V4.as [.int (pi1.toInt8.toInt32), .int (pi2.toInt8.toInt32), i0, i0, i0, i0, i0, i0, i0, i0, i0, i0, i0, i0, i0, i0, i0, i0, i0, i0, i0, i0] rfl
  refine oJ 35 2 #[rr pa1, ii 2, rr pa2, ii 1, ii 22, ii 1, ii pi2] X4 d20_32 rfl rfl (by decide) rfl <| oJ 38 2 #[rr pa1, ii 2, rr pa2, ii 2, ii 22, ii 1, ii pi2] X4 d20_35 rfl rfl (by decide) rfl <| oJ 41 2 #[rr pa1, ii 2, rr pa2, ii 2, ii 22, ii 2, ii pi2] X4 d20_38 rfl rfl (by decide) rfl <| og 3 X4 d20_41 (by decide) <| oi 5 X4 d20_3 rfl rfl <| oi 7 X4 d20_5 rfl rfl <| oN 10 X4 d20_7 rfl (tlt (by decide)).2.1 <| oA 11 X4 d20_10 rfl rfl <| oI 12 X4 d20_11 rfl rfl ?_
  have f7 := f3.oth W4 (by omega)
  refine oC 13 (v := (.int pi3)) X4 f7 ⟨by decide, by decide⟩ rfl d20_12 rfl <| oS 15 (l' := #[rr pa1, ii 2, rr pa2, ii 2, ii 22, ii 2, ii pi3]) X4 d20_13 rfl rfl <| oi 17 X4 d20_15 rfl rfl <| o_sipush 20 (v := 255) X4 d20_17 rfl (by decide) <| oY 26 X4 d20_20 (by decide) (flt rg_pi3.2).2.2.2 <| oA 27 X4 d20_26 rfl rfl <| oI 28 X4 d20_27 rfl rfl <| oi 30 X4 d20_28 rfl rfl <| o_i2b 31 (v := (pi3.toInt8.toInt32)) X4 d20_30 rfl rfl ?_
  have f9 := C4.safe (own_lt (by omega)) f5
  refine sB 32 2 (pi3.toInt8.toInt32) X4 V6 (by decide) (lb rfl) (own_narB _) d20_31 rfl (by omega) (Or.inl (by simp)) f9 ?_
  rintro _ _ X8 ⟨_, _, W8⟩ C8 V8
  have := W8.size
  have V10 := V8.as [.int (pi1.toInt8.toInt32), .int (pi2.toInt8.toInt32), .int (pi3.toInt8.toInt32), i0, i0, i0, i0, i0, i0, i0, i0, i0, i0, i0, i0, i0, i0, i0, i0, i0, i0, i0] rfl
  refine oJ 35 3 #[rr pa1, ii 3, rr pa2, ii 2, ii 22, ii 2, ii pi3] X8 d20_32 rfl rfl (by decide) rfl <| oJ 38 3 #[rr pa1, ii 3, rr pa2, ii 3, ii 22, ii 2, ii pi3] X8 d20_35 rfl rfl (by decide) rfl <| oJ 41 3 #[rr pa1, ii 3, rr pa2, ii 3, ii 22, ii 3, ii pi3] X8 d20_38 rfl rfl (by decide) rfl <| og 3 X8 d20_41 (by decide) <| oi 5 X8 d20_3 rfl rfl <| oi 7 X8 d20_5 rfl rfl <| oN 10 X8 d20_7 rfl (tlt (by decide)).2.1 <| oA 11 X8 d20_10 rfl rfl <| oI 12 X8 d20_11 rfl rfl ?_
  have f11 := f7.oth W8 (by omega)
  refine oC 13 (v := (.int pi4)) X8 f11 ⟨by decide, by decide⟩ rfl d20_12 rfl <| oS 15 (l' := #[rr pa1, ii 3, rr pa2, ii 3, ii 22, ii 3, ii pi4]) X8 d20_13 rfl rfl <| oi 17 X8 d20_15 rfl rfl <| o_sipush 20 (v := 255) X8 d20_17 rfl (by decide) <| oY 26 X8 d20_20 (by decide) (flt rg_pi4.2).2.2.2 <| oA 27 X8 d20_26 rfl rfl <| oI 28 X8 d20_27 rfl rfl <| oi 30 X8 d20_28 rfl rfl <| o_i2b 31 (v := (pi4.toInt8.toInt32)) X8 d20_30 rfl rfl ?_
  have f13 := C8.safe (own_lt (by omega)) f9
  refine sB 32 3 (pi4.toInt8.toInt32) X8 V10 (by decide) (lb rfl) (own_narB _) d20_31 rfl (by omega) (Or.inl (by simp)) f13 ?_
  rintro _ _ X12 ⟨_, _, W12⟩ C12 V12
  have := W12.size
  have V14 := V12.as [.int (pi1.toInt8.toInt32), .int (pi2.toInt8.toInt32), .int (pi3.toInt8.toInt32), .int (pi4.toInt8.toInt32), i0, i0, i0, i0, i0, i0, i0, i0, i0, i0, i0, i0, i0, i0, i0, i0, i0, i0] rfl
  refine oJ 35 4 #[rr pa1, ii 4, rr pa2, ii 3, ii 22, ii 3, ii pi4] X12 d20_32 rfl rfl (by decide) rfl <| oJ 38 4 #[rr pa1, ii 4, rr pa2, ii 4, ii 22, ii 3, ii pi4] X12 d20_35 rfl rfl (by decide) rfl <| oJ 41 4 #[rr pa1, ii 4, rr pa2, ii 4, ii 22, ii 4, ii pi4] X12 d20_38 rfl rfl (by decide) rfl <| og 3 X12 d20_41 (by decide) <| oi 5 X12 d20_3 rfl rfl <| oi 7 X12 d20_5 rfl rfl <| oN 10 X12 d20_7 rfl (tlt (by decide)).2.1 <| oA 11 X12 d20_10 rfl rfl <| oI 12 X12 d20_11 rfl rfl ?_
  have f15 := f11.oth W12 (by omega)
  refine oC 13 (v := (.int pi5)) X12 f15 ⟨by decide, by decide⟩ rfl d20_12 rfl <| oS 15 (l' := #[rr pa1, ii 4, rr pa2, ii 4, ii 22, ii 4, ii pi5]) X12 d20_13 rfl rfl <| oi 17 X12 d20_15 rfl rfl <| o_sipush 20 (v := 255) X12 d20_17 rfl (by decide) <| oY 26 X12 d20_20 (by decide) (flt rg_pi5.2).2.2.2 <| oA 27 X12 d20_26 rfl rfl <| oI 28 X12 d20_27 rfl rfl <| oi 30 X12 d20_28 rfl rfl <| o_i2b 31 (v := (pi5.toInt8.toInt32)) X12 d20_30 rfl rfl ?_
  have f17 := C12.safe (own_lt (by omega)) f13
  refine sB 32 4 (pi5.toInt8.toInt32) X12 V14 (by decide) (lb rfl) (own_narB _) d20_31 rfl (by omega) (Or.inl (by simp)) f17 ?_
  rintro _ _ X16 ⟨_, _, W16⟩ C16 V16
  have := W16.size
  have V18 := V16.as [.int (pi1.toInt8.toInt32), .int (pi2.toInt8.toInt32), .int (pi3.toInt8.toInt32), .int (pi4.toInt8.toInt32), .int (pi5.toInt8.toInt32), i0, i0, i0, i0, i0, i0, i0, i0, i0, i0, i0, i0, i0, i0, i0, i0, i0] rfl
  refine oJ 35 5 #[rr pa1, ii 5, rr pa2, ii 4, ii 22, ii 4, ii pi5] X16 d20_32 rfl rfl (by decide) rfl <| oJ 38 5 #[rr pa1, ii 5, rr pa2, ii 5, ii 22, ii 4, ii pi5] X16 d20_35 rfl rfl (by decide) rfl <| oJ 41 5 #[rr pa1, ii 5, rr pa2, ii 5, ii 22, ii 5, ii pi5] X16 d20_38 rfl rfl (by decide) rfl <| og 3 X16 d20_41 (by decide) <| oi 5 X16 d20_3 rfl rfl <| oi 7 X16 d20_5 rfl rfl <| oN 10 X16 d20_7 rfl (tlt (by decide)).2.1 <| oA 11 X16 d20_10 rfl rfl <| oI 12 X16 d20_11 rfl rfl ?_
  have f19 := f15.oth W16 (by omega)
  refine oC 13 (v := (.int pi6)) X16 f19 ⟨by decide, by decide⟩ rfl d20_12 rfl <| oS 15 (l' := #[rr pa1, ii 5, rr pa2, ii 5, ii 22, ii 5, ii pi6]) X16 d20_13 rfl rfl <| oi 17 X16 d20_15 rfl rfl <| o_sipush 20 (v := 255) X16 d20_17 rfl (by decide) <| oY 26 X16 d20_20 (by decide) (flt rg_pi6.2).2.2.2 <| oA 27 X16 d20_26 rfl rfl <| oI 28 X16 d20_27 rfl rfl <| oi 30 X16 d20_28 rfl rfl <| o_i2b 31 (v := (pi6.toInt8.toInt32)) X16 d20_30 rfl rfl ?_
  have f21 := C16.safe (own_lt (by omega)) f17
  refine sB 32 5 (pi6.toInt8.toInt32) X16 V18 (by decide) (lb rfl) (own_narB _) d20_31 rfl (by omega) (Or.inl (by simp)) f21 ?_
  rintro _ _ X20 ⟨_, _, W20⟩ C20 V20
  have := W20.size
  have V22 := V20.as [.int (pi1.toInt8.toInt32), .int (pi2.toInt8.toInt32), .int (pi3.toInt8.toInt32), .int (pi4.toInt8.toInt32), .int (pi5.toInt8.toInt32), .int (pi6.toInt8.toInt32), i0, i0, i0, i0, i0, i0, i0, i0, i0, i0, i0, i0, i0, i0, i0, i0] rfl
  refine oJ 35 6 #[rr pa1, ii 6, rr pa2, ii 5, ii 22, ii 5, ii pi6] X20 d20_32 rfl rfl (by decide) rfl <| oJ 38 6 #[rr pa1, ii 6, rr pa2, ii 6, ii 22, ii 5, ii pi6] X20 d20_35 rfl rfl (by decide) rfl <| oJ 41 6 #[rr pa1, ii 6, rr pa2, ii 6, ii 22, ii 6, ii pi6] X20 d20_38 rfl rfl (by decide) rfl <| og 3 X20 d20_41 (by decide) <| oi 5 X20 d20_3 rfl rfl <| oi 7 X20 d20_5 rfl rfl <| oN 10 X20 d20_7 rfl (tlt (by decide)).2.1 <| oA 11 X20 d20_10 rfl rfl <| oI 12 X20 d20_11 rfl rfl ?_
  have f23 := f19.oth W20 (by omega)
  refine oC 13 (v := (.int pi7)) X20 f23 ⟨by decide, by decide⟩ rfl d20_12 rfl <| oS 15 (l' := #[rr pa1, ii 6, rr pa2, ii 6, ii 22, ii 6, ii pi7]) X20 d20_13 rfl rfl <| oi 17 X20 d20_15 rfl rfl <| o_sipush 20 (v := 255) X20 d20_17 rfl (by decide) <| oY 26 X20 d20_20 (by decide) (flt rg_pi7.2).2.2.2 <| oA 27 X20 d20_26 rfl rfl <| oI 28 X20 d20_27 rfl rfl <| oi 30 X20 d20_28 rfl rfl <| o_i2b 31 (v := (pi7.toInt8.toInt32)) X20 d20_30 rfl rfl ?_
  have f25 := C20.safe (own_lt (by omega)) f21
  refine sB 32 6 (pi7.toInt8.toInt32) X20 V22 (by decide) (lb rfl) (own_narB _) d20_31 rfl (by omega) (Or.inl (by simp)) f25 ?_
  rintro _ _ X24 ⟨_, _, W24⟩ C24 V24
  have := W24.size
  have V26 := V24.as [.int (pi1.toInt8.toInt32), .int (pi2.toInt8.toInt32), .int (pi3.toInt8.toInt32), .int (pi4.toInt8.toInt32), .int (pi5.toInt8.toInt32), .int (pi6.toInt8.toInt32), .int (pi7.toInt8.toInt32), i0, i0, i0, i0, i0, i0, i0, i0, i0, i0, i0, i0, i0, i0, i0] rfl
  refine oJ 35 7 #[rr pa1, ii 7, rr pa2, ii 6, ii 22, ii 6, ii pi7] X24 d20_32 rfl rfl (by decide) rfl <| oJ 38 7 #[rr pa1, ii 7, rr pa2, ii 7, ii 22, ii 6, ii pi7] X24 d20_35 rfl rfl (by decide) rfl <| oJ 41 7 #[rr pa1, ii 7, rr pa2, ii 7, ii 22, ii 7, ii pi7] X24 d20_38 rfl rfl (by decide) rfl <| og 3 X24 d20_41 (by decide) <| oi 5 X24 d20_3 rfl rfl <| oi 7 X24 d20_5 rfl rfl <| oN 10 X24 d20_7 rfl (tlt (by decide)).2.1 <| oA 11 X24 d20_10 rfl rfl <| oI 12 X24 d20_11 rfl rfl ?_
  have f27 := f23.oth W24 (by omega)
  refine oC 13 (v := (.int pi8)) X24 f27 ⟨by decide, by decide⟩ rfl d20_12 rfl <| oS 15 (l' := #[rr pa1, ii 7, rr pa2, ii 7, ii 22, ii 7, ii pi8]) X24 d20_13 rfl rfl <| oi 17 X24 d20_15 rfl rfl <| o_sipush 20 (v := 255) X24 d20_17 rfl (by decide) <| oY 26 X24 d20_20 (by decide) (flt rg_pi8.2).2.2.2 <| oA 27 X24 d20_26 rfl rfl <| oI 28 X24 d20_27 rfl rfl <| oi 30 X24 d20_28 rfl rfl <| o_i2b 31 (v := (pi8.toInt8.toInt32)) X24 d20_30 rfl rfl ?_
  have f29 := C24.safe (own_lt (by omega)) f25
  refine sB 32 7 (pi8.toInt8.toInt32) X24 V26 (by decide) (lb rfl) (own_narB _) d20_31 rfl (by omega) (Or.inl (by simp)) f29 ?_
  rintro _ _ X28 ⟨_, _, W28⟩ C28 V28
  have := W28.size
  have V30 := V28.as [.int (pi1.toInt8.toInt32), .int (pi2.toInt8.toInt32), .int (pi3.toInt8.toInt32), .int (pi4.toInt8.toInt32), .int (pi5.toInt8.toInt32), .int (pi6.toInt8.toInt32), .int (pi7.toInt8.toInt32), .int (pi8.toInt8.toInt32), i0, i0, i0, i0, i0, i0, i0, i0, i0, i0, i0, i0, i0, i0] rfl
  refine oJ 35 8 #[rr pa1, ii 8, rr pa2, ii 7, ii 22, ii 7, ii pi8] X28 d20_32 rfl rfl (by decide) rfl <| oJ 38 8 #[rr pa1, ii 8, rr pa2, ii 8, ii 22, ii 7, ii pi8] X28 d20_35 rfl rfl (by decide) rfl <| oJ 41 8 #[rr pa1, ii 8, rr pa2, ii 8, ii 22, ii 8, ii pi8] X28 d20_38 rfl rfl (by decide) rfl <| og 3 X28 d20_41 (by decide) <| oi 5 X28 d20_3 rfl rfl <| oi 7 X28 d20_5 rfl rfl <| oN 10 X28 d20_7 rfl (tlt (by decide)).2.1 <| oA 11 X28 d20_10 rfl rfl <| oI 12 X28 d20_11 rfl rfl ?_
  have f31 := f27.oth W28 (by omega)
  refine oC 13 (v := (.int pi9)) X28 f31 ⟨by decide, by decide⟩ rfl d20_12 rfl <| oS 15 (l' := #[rr pa1, ii 8, rr pa2, ii 8, ii 22, ii 8, ii pi9]) X28 d20_13 rfl rfl <| oi 17 X28 d20_15 rfl rfl <| o_sipush 20 (v := 255) X28 d20_17 rfl (by decide) <| oY 26 X28 d20_20 (by decide) (flt rg_pi9.2).2.2.2 <| oA 27 X28 d20_26 rfl rfl <| oI 28 X28 d20_27 rfl rfl <| oi 30 X28 d20_28 rfl rfl <| o_i2b 31 (v := (pi9.toInt8.toInt32)) X28 d20_30 rfl rfl ?_
  have f33 := C28.safe (own_lt (by omega)) f29
  refine sB 32 8 (pi9.toInt8.toInt32) X28 V30 (by decide) (lb rfl) (own_narB _) d20_31 rfl (by omega) (Or.inl (by simp)) f33 ?_
  rintro _ _ X32 ⟨_, _, W32⟩ C32 V32
  have := W32.size
  have V34 := V32.as [.int (pi1.toInt8.toInt32), .int (pi2.toInt8.toInt32), .int (pi3.toInt8.toInt32), .int (pi4.toInt8.toInt32), .int (pi5.toInt8.toInt32), .int (pi6.toInt8.toInt32), .int (pi7.toInt8.toInt32), .int (pi8.toInt8.toInt32), .int (pi9.toInt8.toInt32), i0, i0, i0, i0, i0, i0, i0, i0, i0, i0, i0, i0, i0] rfl
  refine oJ 35 9 #[rr pa1, ii 9, rr pa2, ii 8, ii 22, ii 8, ii pi9] X32 d20_32 rfl rfl (by decide) rfl <| oJ 38 9 #[rr pa1, ii 9, rr pa2, ii 9, ii 22, ii 8, ii pi9] X32 d20_35 rfl rfl (by decide) rfl <| oJ 41 9 #[rr pa1, ii 9, rr pa2, ii 9, ii 22, ii 9, ii pi9] X32 d20_38 rfl rfl (by decide) rfl <| og 3 X32 d20_41 (by decide) <| oi 5 X32 d20_3 rfl rfl <| oi 7 X32 d20_5 rfl rfl <| oN 10 X32 d20_7 rfl (tlt (by decide)).2.1 <| oA 11 X32 d20_10 rfl rfl <| oI 12 X32 d20_11 rfl rfl ?_
  have f35 := f31.oth W32 (by omega)
  refine oC 13 (v := (.int pi10)) X32 f35 ⟨by decide, by decide⟩ rfl d20_12 rfl <| oS 15 (l' := #[rr pa1, ii 9, rr pa2, ii 9, ii 22, ii 9, ii pi10]) X32 d20_13 rfl rfl <| oi 17 X32 d20_15 rfl rfl <| o_sipush 20 (v := 255) X32 d20_17 rfl (by decide) <| oY 26 X32 d20_20 (by decide) (flt rg_pi10.2).2.2.2 <| oA 27 X32 d20_26 rfl rfl <| oI 28 X32 d20_27 rfl rfl <| oi 30 X32 d20_28 rfl rfl <| o_i2b 31 (v := (pi10.toInt8.toInt32)) X32 d20_30 rfl rfl ?_
  have f37 := C32.safe (own_lt (by omega)) f33
  refine sB 32 9 (pi10.toInt8.toInt32) X32 V34 (by decide) (lb rfl) (own_narB _) d20_31 rfl (by omega) (Or.inl (by simp)) f37 ?_
  rintro _ _ X36 ⟨_, _, W36⟩ C36 V36
  have := W36.size
  have V38 := V36.as [.int (pi1.toInt8.toInt32), .int (pi2.toInt8.toInt32), .int (pi3.toInt8.toInt32), .int (pi4.toInt8.toInt32), .int (pi5.toInt8.toInt32), .int (pi6.toInt8.toInt32), .int (pi7.toInt8.toInt32), .int (pi8.toInt8.toInt32), .int (pi9.toInt8.toInt32), .int (pi10.toInt8.toInt32), i0, i0, i0, i0, i0, i0, i0, i0, i0, i0, i0, i0] rfl
  refine oJ 35 10 #[rr pa1, ii 10, rr pa2, ii 9, ii 22, ii 9, ii pi10] X36 d20_32 rfl rfl (by decide) rfl <| oJ 38 10 #[rr pa1, ii 10, rr pa2, ii 10, ii 22, ii 9, ii pi10] X36 d20_35 rfl rfl (by decide) rfl <| oJ 41 10 #[rr pa1, ii 10, rr pa2, ii 10, ii 22, ii 10, ii pi10] X36 d20_38 rfl rfl (by decide) rfl <| og 3 X36 d20_41 (by decide) <| oi 5 X36 d20_3 rfl rfl <| oi 7 X36 d20_5 rfl rfl <| oN 10 X36 d20_7 rfl (tlt (by decide)).2.1 <| oA 11 X36 d20_10 rfl rfl <| oI 12 X36 d20_11 rfl rfl ?_
  have f39 := f35.oth W36 (by omega)
  refine oC 13 (v := (.int pi11)) X36 f39 ⟨by decide, by decide⟩ rfl d20_12 rfl <| oS 15 (l' := #[rr pa1, ii 10, rr pa2, ii 10, ii 22, ii 10, ii pi11]) X36 d20_13 rfl rfl <| oi 17 X36 d20_15 rfl rfl <| o_sipush 20 (v := 255) X36 d20_17 rfl (by decide) <| oY 26 X36 d20_20 (by decide) (flt rg_pi11.2).2.2.2 <| oA 27 X36 d20_26 rfl rfl <| oI 28 X36 d20_27 rfl rfl <| oi 30 X36 d20_28 rfl rfl <| o_i2b 31 (v := (pi11.toInt8.toInt32)) X36 d20_30 rfl rfl ?_
  have f41 := C36.safe (own_lt (by omega)) f37
  refine sB 32 10 (pi11.toInt8.toInt32) X36 V38 (by decide) (lb rfl) (own_narB _) d20_31 rfl (by omega) (Or.inl (by simp)) f41 ?_
  rintro _ _ X40 ⟨_, _, W40⟩ C40 V40
  have := W40.size
  have V42 := V40.as [.int (pi1.toInt8.toInt32), .int (pi2.toInt8.toInt32), .int (pi3.toInt8.toInt32), .int (pi4.toInt8.toInt32), .int (pi5.toInt8.toInt32), .int (pi6.toInt8.toInt32), .int (pi7.toInt8.toInt32), .int (pi8.toInt8.toInt32), .int (pi9.toInt8.toInt32), .int (pi10.toInt8.toInt32), .int (pi11.toInt8.toInt32), i0, i0, i0, i0, i0, i0, i0, i0, i0, i0, i0] rfl
  refine oJ 35 11 #[rr pa1, ii 11, rr pa2, ii 10, ii 22, ii 10, ii pi11] X40 d20_32 rfl rfl (by decide) rfl <| oJ 38 11 #[rr pa1, ii 11, rr pa2, ii 11, ii 22, ii 10, ii pi11] X40 d20_35 rfl rfl (by decide) rfl <| oJ 41 11 #[rr pa1, ii 11, rr pa2, ii 11, ii 22, ii 11, ii pi11] X40 d20_38 rfl rfl (by decide) rfl <| og 3 X40 d20_41 (by decide) <| oi 5 X40 d20_3 rfl rfl <| oi 7 X40 d20_5 rfl rfl <| oN 10 X40 d20_7 rfl (tlt (by decide)).2.1 <| oA 11 X40 d20_10 rfl rfl <| oI 12 X40 d20_11 rfl rfl ?_
  have f43 := f39.oth W40 (by omega)
  refine oC 13 (v := (.int pi12)) X40 f43 ⟨by decide, by decide⟩ rfl d20_12 rfl <| oS 15 (l' := #[rr pa1, ii 11, rr pa2, ii 11, ii 22, ii 11, ii pi12]) X40 d20_13 rfl rfl <| oi 17 X40 d20_15 rfl rfl <| o_sipush 20 (v := 255) X40 d20_17 rfl (by decide) <| oY 26 X40 d20_20 (by decide) (flt rg_pi12.2).2.2.2 <| oA 27 X40 d20_26 rfl rfl <| oI 28 X40 d20_27 rfl rfl <| oi 30 X40 d20_28 rfl rfl <| o_i2b 31 (v := (pi12.toInt8.toInt32)) X40 d20_30 rfl rfl ?_
  have f45 := C40.safe (own_lt (by omega)) f41
  refine sB 32 11 (pi12.toInt8.toInt32) X40 V42 (by decide) (lb rfl) (own_narB _) d20_31 rfl (by omega) (Or.inl (by simp)) f45 ?_
  rintro _ _ X44 ⟨_, _, W44⟩ C44 V44
  have := W44.size
  have V46 := V44.as [.int (pi1.toInt8.toInt32), .int (pi2.toInt8.toInt32), .int (pi3.toInt8.toInt32), .int (pi4.toInt8.toInt32), .int (pi5.toInt8.toInt32), .int (pi6.toInt8.toInt32), .int (pi7.toInt8.toInt32), .int (pi8.toInt8.toInt32), .int (pi9.toInt8.toInt32), .int (pi10.toInt8.toInt32), .int (pi11.toInt8.toInt32), .int (pi12.toInt8.toInt32), i0, i0, i0, i0, i0, i0, i0, i0, i0, i0] rfl
  refine oJ 35 12 #[rr pa1, ii 12, rr pa2, ii 11, ii 22, ii 11, ii pi12] X44 d20_32 rfl rfl (by decide) rfl <| oJ 38 12 #[rr pa1, ii 12, rr pa2, ii 12, ii 22, ii 11, ii pi12] X44 d20_35 rfl rfl (by decide) rfl <| oJ 41 12 #[rr pa1, ii 12, rr pa2, ii 12, ii 22, ii 12, ii pi12] X44 d20_38 rfl rfl (by decide) rfl <| og 3 X44 d20_41 (by decide) <| oi 5 X44 d20_3 rfl rfl <| oi 7 X44 d20_5 rfl rfl <| oN 10 X44 d20_7 rfl (tlt (by decide)).2.1 <| oA 11 X44 d20_10 rfl rfl <| oI 12 X44 d20_11 rfl rfl ?_
  have f47 := f43.oth W44 (by omega)
  refine oC 13 (v := (.int pi13)) X44 f47 ⟨by decide, by decide⟩ rfl d20_12 rfl <| oS 15 (l' := #[rr pa1, ii 12, rr pa2, ii 12, ii 22, ii 12, ii pi13]) X44 d20_13 rfl rfl <| oi 17 X44 d20_15 rfl rfl <| o_sipush 20 (v := 255) X44 d20_17 rfl (by decide) <| oY 26 X44 d20_20 (by decide) (flt rg_pi13.2).2.2.2 <| oA 27 X44 d20_26 rfl rfl <| oI 28 X44 d20_27 rfl rfl <| oi 30 X44 d20_28 rfl rfl <| o_i2b 31 (v := (pi13.toInt8.toInt32)) X44 d20_30 rfl rfl ?_
  have f49 := C44.safe (own_lt (by omega)) f45
  refine sB 32 12 (pi13.toInt8.toInt32) X44 V46 (by decide) (lb rfl) (own_narB _) d20_31 rfl (by omega) (Or.inl (by simp)) f49 ?_
  rintro _ _ X48 ⟨_, _, W48⟩ C48 V48
  have := W48.size
  have V50 := V48.as [.int (pi1.toInt8.toInt32), .int (pi2.toInt8.toInt32), .int (pi3.toInt8.toInt32), .int (pi4.toInt8.toInt32), .int (pi5.toInt8.toInt32), .int (pi6.toInt8.toInt32), .int (pi7.toInt8.toInt32), .int (pi8.toInt8.toInt32), .int (pi9.toInt8.toInt32), .int (pi10.toInt8.toInt32), .int (pi11.toInt8.toInt32), .int (pi12.toInt8.toInt32), .int (pi13.toInt8.toInt32), i0, i0, i0, i0, i0, i0, i0, i0, i0] rfl
  refine oJ 35 13 #[rr pa1, ii 13, rr pa2, ii 12, ii 22, ii 12, ii pi13] X48 d20_32 rfl rfl (by decide) rfl <| oJ 38 13 #[rr pa1, ii 13, rr pa2, ii 13, ii 22, ii 12, ii pi13] X48 d20_35 rfl rfl (by decide) rfl <| oJ 41 13 #[rr pa1, ii 13, rr pa2, ii 13, ii 22, ii 13, ii pi13] X48 d20_38 rfl rfl (by decide) rfl <| og 3 X48 d20_41 (by decide) <| oi 5 X48 d20_3 rfl rfl <| oi 7 X48 d20_5 rfl rfl <| oN 10 X48 d20_7 rfl (tlt (by decide)).2.1 <| oA 11 X48 d20_10 rfl rfl <| oI 12 X48 d20_11 rfl rfl ?_
  have f51 := f47.oth W48 (by omega)
  refine oC 13 (v := (.int pi14)) X48 f51 ⟨by decide, by decide⟩ rfl d20_12 rfl <| oS 15 (l' := #[rr pa1, ii 13, rr pa2, ii 13, ii 22, ii 13, ii pi14]) X48 d20_13 rfl rfl <| oi 17 X48 d20_15 rfl rfl <| o_sipush 20 (v := 255) X48 d20_17 rfl (by decide) <| oY 26 X48 d20_20 (by decide) (flt rg_pi14.2).2.2.2 <| oA 27 X48 d20_26 rfl rfl <| oI 28 X48 d20_27 rfl rfl <| oi 30 X48 d20_28 rfl rfl <| o_i2b 31 (v := (pi14.toInt8.toInt32)) X48 d20_30 rfl rfl ?_
  have f53 := C48.safe (own_lt (by omega)) f49
  refine sB 32 13 (pi14.toInt8.toInt32) X48 V50 (by decide) (lb rfl) (own_narB _) d20_31 rfl (by omega) (Or.inl (by simp)) f53 ?_
  rintro _ _ X52 ⟨_, _, W52⟩ C52 V52
  have := W52.size
  have V54 := V52.as [.int (pi1.toInt8.toInt32), .int (pi2.toInt8.toInt32), .int (pi3.toInt8.toInt32), .int (pi4.toInt8.toInt32), .int (pi5.toInt8.toInt32), .int (pi6.toInt8.toInt32), .int (pi7.toInt8.toInt32), .int (pi8.toInt8.toInt32), .int (pi9.toInt8.toInt32), .int (pi10.toInt8.toInt32), .int (pi11.toInt8.toInt32), .int (pi12.toInt8.toInt32), .int (pi13.toInt8.toInt32), .int (pi14.toInt8.toInt32), i0, i0, i0, i0, i0, i0, i0, i0] rfl
  refine oJ 35 14 #[rr pa1, ii 14, rr pa2, ii 13, ii 22, ii 13, ii pi14] X52 d20_32 rfl rfl (by decide) rfl <| oJ 38 14 #[rr pa1, ii 14, rr pa2, ii 14, ii 22, ii 13, ii pi14] X52 d20_35 rfl rfl (by decide) rfl <| oJ 41 14 #[rr pa1, ii 14, rr pa2, ii 14, ii 22, ii 14, ii pi14] X52 d20_38 rfl rfl (by decide) rfl <| og 3 X52 d20_41 (by decide) <| oi 5 X52 d20_3 rfl rfl <| oi 7 X52 d20_5 rfl rfl <| oN 10 X52 d20_7 rfl (tlt (by decide)).2.1 <| oA 11 X52 d20_10 rfl rfl <| oI 12 X52 d20_11 rfl rfl ?_
  have f55 := f51.oth W52 (by omega)
  refine oC 13 (v := (.int pi15)) X52 f55 ⟨by decide, by decide⟩ rfl d20_12 rfl <| oS 15 (l' := #[rr pa1, ii 14, rr pa2, ii 14, ii 22, ii 14, ii pi15]) X52 d20_13 rfl rfl <| oi 17 X52 d20_15 rfl rfl <| o_sipush 20 (v := 255) X52 d20_17 rfl (by decide) <| oY 26 X52 d20_20 (by decide) (flt rg_pi15.2).2.2.2 <| oA 27 X52 d20_26 rfl rfl <| oI 28 X52 d20_27 rfl rfl <| oi 30 X52 d20_28 rfl rfl <| o_i2b 31 (v := (pi15.toInt8.toInt32)) X52 d20_30 rfl rfl ?_
  have f57 := C52.safe (own_lt (by omega)) f53
  refine sB 32 14 (pi15.toInt8.toInt32) X52 V54 (by decide) (lb rfl) (own_narB _) d20_31 rfl (by omega) (Or.inl (by simp)) f57 ?_
  rintro _ _ X56 ⟨_, _, W56⟩ C56 V56
  have := W56.size
  have V58 := V56.as [.int (pi1.toInt8.toInt32), .int (pi2.toInt8.toInt32), .int (pi3.toInt8.toInt32), .int (pi4.toInt8.toInt32), .int (pi5.toInt8.toInt32), .int (pi6.toInt8.toInt32), .int (pi7.toInt8.toInt32), .int (pi8.toInt8.toInt32), .int (pi9.toInt8.toInt32), .int (pi10.toInt8.toInt32), .int (pi11.toInt8.toInt32), .int (pi12.toInt8.toInt32), .int (pi13.toInt8.toInt32), .int (pi14.toInt8.toInt32), .int (pi15.toInt8.toInt32), i0, i0, i0, i0, i0, i0, i0] rfl
  refine oJ 35 15 #[rr pa1, ii 15, rr pa2, ii 14, ii 22, ii 14, ii pi15] X56 d20_32 rfl rfl (by decide) rfl <| oJ 38 15 #[rr pa1, ii 15, rr pa2, ii 15, ii 22, ii 14, ii pi15] X56 d20_35 rfl rfl (by decide) rfl <| oJ 41 15 #[rr pa1, ii 15, rr pa2, ii 15, ii 22, ii 15, ii pi15] X56 d20_38 rfl rfl (by decide) rfl <| og 3 X56 d20_41 (by decide) <| oi 5 X56 d20_3 rfl rfl <| oi 7 X56 d20_5 rfl rfl <| oN 10 X56 d20_7 rfl (tlt (by decide)).2.1 <| oA 11 X56 d20_10 rfl rfl <| oI 12 X56 d20_11 rfl rfl ?_
  have f59 := f55.oth W56 (by omega)
  refine oC 13 (v := (.int pi16)) X56 f59 ⟨by decide, by decide⟩ rfl d20_12 rfl <| oS 15 (l' := #[rr pa1, ii 15, rr pa2, ii 15, ii 22, ii 15, ii pi16]) X56 d20_13 rfl rfl <| oi 17 X56 d20_15 rfl rfl <| o_sipush 20 (v := 255) X56 d20_17 rfl (by decide) <| oY 26 X56 d20_20 (by decide) (flt rg_pi16.2).2.2.2 <| oA 27 X56 d20_26 rfl rfl <| oI 28 X56 d20_27 rfl rfl <| oi 30 X56 d20_28 rfl rfl <| o_i2b 31 (v := (pi16.toInt8.toInt32)) X56 d20_30 rfl rfl ?_
  have f61 := C56.safe (own_lt (by omega)) f57
  refine sB 32 15 (pi16.toInt8.toInt32) X56 V58 (by decide) (lb rfl) (own_narB _) d20_31 rfl (by omega) (Or.inl (by simp)) f61 ?_
  rintro _ _ X60 ⟨_, _, W60⟩ C60 V60
  have := W60.size
  have V62 := V60.as [.int (pi1.toInt8.toInt32), .int (pi2.toInt8.toInt32), .int (pi3.toInt8.toInt32), .int (pi4.toInt8.toInt32), .int (pi5.toInt8.toInt32), .int (pi6.toInt8.toInt32), .int (pi7.toInt8.toInt32), .int (pi8.toInt8.toInt32), .int (pi9.toInt8.toInt32), .int (pi10.toInt8.toInt32), .int (pi11.toInt8.toInt32), .int (pi12.toInt8.toInt32), .int (pi13.toInt8.toInt32), .int (pi14.toInt8.toInt32), .int (pi15.toInt8.toInt32), .int (pi16.toInt8.toInt32), i0, i0, i0, i0, i0, i0] rfl
  refine oJ 35 16 #[rr pa1, ii 16, rr pa2, ii 15, ii 22, ii 15, ii pi16] X60 d20_32 rfl rfl (by decide) rfl <| oJ 38 16 #[rr pa1, ii 16, rr pa2, ii 16, ii 22, ii 15, ii pi16] X60 d20_35 rfl rfl (by decide) rfl <| oJ 41 16 #[rr pa1, ii 16, rr pa2, ii 16, ii 22, ii 16, ii pi16] X60 d20_38 rfl rfl (by decide) rfl <| og 3 X60 d20_41 (by decide) <| oi 5 X60 d20_3 rfl rfl <| oi 7 X60 d20_5 rfl rfl <| oN 10 X60 d20_7 rfl (tlt (by decide)).2.1 <| oA 11 X60 d20_10 rfl rfl <| oI 12 X60 d20_11 rfl rfl ?_
  have f63 := f59.oth W60 (by omega)
  refine oC 13 (v := (.int pi17)) X60 f63 ⟨by decide, by decide⟩ rfl d20_12 rfl <| oS 15 (l' := #[rr pa1, ii 16, rr pa2, ii 16, ii 22, ii 16, ii pi17]) X60 d20_13 rfl rfl <| oi 17 X60 d20_15 rfl rfl <| o_sipush 20 (v := 255) X60 d20_17 rfl (by decide) <| oY 26 X60 d20_20 (by decide) (flt rg_pi17.2).2.2.2 <| oA 27 X60 d20_26 rfl rfl <| oI 28 X60 d20_27 rfl rfl <| oi 30 X60 d20_28 rfl rfl <| o_i2b 31 (v := (pi17.toInt8.toInt32)) X60 d20_30 rfl rfl ?_
  have f65 := C60.safe (own_lt (by omega)) f61
  refine sB 32 16 (pi17.toInt8.toInt32) X60 V62 (by decide) (lb rfl) (own_narB _) d20_31 rfl (by omega) (Or.inl (by simp)) f65 ?_
  rintro _ _ X64 ⟨_, _, W64⟩ C64 V64
  have := W64.size
  have V66 := V64.as [.int (pi1.toInt8.toInt32), .int (pi2.toInt8.toInt32), .int (pi3.toInt8.toInt32), .int (pi4.toInt8.toInt32), .int (pi5.toInt8.toInt32), .int (pi6.toInt8.toInt32), .int (pi7.toInt8.toInt32), .int (pi8.toInt8.toInt32), .int (pi9.toInt8.toInt32), .int (pi10.toInt8.toInt32), .int (pi11.toInt8.toInt32), .int (pi12.toInt8.toInt32), .int (pi13.toInt8.toInt32), .int (pi14.toInt8.toInt32), .int (pi15.toInt8.toInt32), .int (pi16.toInt8.toInt32), .int (pi17.toInt8.toInt32), i0, i0, i0, i0, i0] rfl
  refine oJ 35 17 #[rr pa1, ii 17, rr pa2, ii 16, ii 22, ii 16, ii pi17] X64 d20_32 rfl rfl (by decide) rfl <| oJ 38 17 #[rr pa1, ii 17, rr pa2, ii 17, ii 22, ii 16, ii pi17] X64 d20_35 rfl rfl (by decide) rfl <| oJ 41 17 #[rr pa1, ii 17, rr pa2, ii 17, ii 22, ii 17, ii pi17] X64 d20_38 rfl rfl (by decide) rfl <| og 3 X64 d20_41 (by decide) <| oi 5 X64 d20_3 rfl rfl <| oi 7 X64 d20_5 rfl rfl <| oN 10 X64 d20_7 rfl (tlt (by decide)).2.1 <| oA 11 X64 d20_10 rfl rfl <| oI 12 X64 d20_11 rfl rfl ?_
  have f67 := f63.oth W64 (by omega)
  refine oC 13 (v := (.int pi18)) X64 f67 ⟨by decide, by decide⟩ rfl d20_12 rfl <| oS 15 (l' := #[rr pa1, ii 17, rr pa2, ii 17, ii 22, ii 17, ii pi18]) X64 d20_13 rfl rfl <| oi 17 X64 d20_15 rfl rfl <| o_sipush 20 (v := 255) X64 d20_17 rfl (by decide) <| oY 26 X64 d20_20 (by decide) (flt rg_pi18.2).2.2.2 <| oA 27 X64 d20_26 rfl rfl <| oI 28 X64 d20_27 rfl rfl <| oi 30 X64 d20_28 rfl rfl <| o_i2b 31 (v := (pi18.toInt8.toInt32)) X64 d20_30 rfl rfl ?_
  have f69 := C64.safe (own_lt (by omega)) f65
  refine sB 32 17 (pi18.toInt8.toInt32) X64 V66 (by decide) (lb rfl) (own_narB _) d20_31 rfl (by omega) (Or.inl (by simp)) f69 ?_
  rintro _ _ X68 ⟨_, _, W68⟩ C68 V68
  have := W68.size
  have V70 := V68.as [.int (pi1.toInt8.toInt32), .int (pi2.toInt8.toInt32), .int (pi3.toInt8.toInt32), .int (pi4.toInt8.toInt32), .int (pi5.toInt8.toInt32), .int (pi6.toInt8.toInt32), .int (pi7.toInt8.toInt32), .int (pi8.toInt8.toInt32), .int (pi9.toInt8.toInt32), .int (pi10.toInt8.toInt32), .int (pi11.toInt8.toInt32), .int (pi12.toInt8.toInt32), .int (pi13.toInt8.toInt32), .int (pi14.toInt8.toInt32), .int (pi15.toInt8.toInt32), .int (pi16.toInt8.toInt32), .int (pi17.toInt8.toInt32), .int (pi18.toInt8.toInt32), i0, i0, i0, i0] rfl
  refine oJ 35 18 #[rr pa1, ii 18, rr pa2, ii 17, ii 22, ii 17, ii pi18] X68 d20_32 rfl rfl (by decide) rfl <| oJ 38 18 #[rr pa1, ii 18, rr pa2, ii 18, ii 22, ii 17, ii pi18] X68 d20_35 rfl rfl (by decide) rfl <| oJ 41 18 #[rr pa1, ii 18, rr pa2, ii 18, ii 22, ii 18, ii pi18] X68 d20_38 rfl rfl (by decide) rfl <| og 3 X68 d20_41 (by decide) <| oi 5 X68 d20_3 rfl rfl <| oi 7 X68 d20_5 rfl rfl <| oN 10 X68 d20_7 rfl (tlt (by decide)).2.1 <| oA 11 X68 d20_10 rfl rfl <| oI 12 X68 d20_11 rfl rfl ?_
  have f71 := f67.oth W68 (by omega)
  refine oC 13 (v := (.int pi19)) X68 f71 ⟨by decide, by decide⟩ rfl d20_12 rfl <| oS 15 (l' := #[rr pa1, ii 18, rr pa2, ii 18, ii 22, ii 18, ii pi19]) X68 d20_13 rfl rfl <| oi 17 X68 d20_15 rfl rfl <| o_sipush 20 (v := 255) X68 d20_17 rfl (by decide) <| oY 26 X68 d20_20 (by decide) (flt rg_pi19.2).2.2.2 <| oA 27 X68 d20_26 rfl rfl <| oI 28 X68 d20_27 rfl rfl <| oi 30 X68 d20_28 rfl rfl <| o_i2b 31 (v := (pi19.toInt8.toInt32)) X68 d20_30 rfl rfl ?_
  have f73 := C68.safe (own_lt (by omega)) f69
  refine sB 32 18 (pi19.toInt8.toInt32) X68 V70 (by decide) (lb rfl) (own_narB _) d20_31 rfl (by omega) (Or.inl (by simp)) f73 ?_
  rintro _ _ X72 ⟨_, _, W72⟩ C72 V72
  have := W72.size
  have V74 := V72.as [.int (pi1.toInt8.toInt32), .int (pi2.toInt8.toInt32), .int (pi3.toInt8.toInt32), .int (pi4.toInt8.toInt32), .int (pi5.toInt8.toInt32), .int (pi6.toInt8.toInt32), .int (pi7.toInt8.toInt32), .int (pi8.toInt8.toInt32), .int (pi9.toInt8.toInt32), .int (pi10.toInt8.toInt32), .int (pi11.toInt8.toInt32), .int (pi12.toInt8.toInt32), .int (pi13.toInt8.toInt32), .int (pi14.toInt8.toInt32), .int (pi15.toInt8.toInt32), .int (pi16.toInt8.toInt32), .int (pi17.toInt8.toInt32), .int (pi18.toInt8.toInt32), .int (pi19.toInt8.toInt32), i0, i0, i0] rfl
  refine oJ 35 19 #[rr pa1, ii 19, rr pa2, ii 18, ii 22, ii 18, ii pi19] X72 d20_32 rfl rfl (by decide) rfl <| oJ 38 19 #[rr pa1, ii 19, rr pa2, ii 19, ii 22, ii 18, ii pi19] X72 d20_35 rfl rfl (by decide) rfl <| oJ 41 19 #[rr pa1, ii 19, rr pa2, ii 19, ii 22, ii 19, ii pi19] X72 d20_38 rfl rfl (by decide) rfl <| og 3 X72 d20_41 (by decide) <| oi 5 X72 d20_3 rfl rfl <| oi 7 X72 d20_5 rfl rfl <| oN 10 X72 d20_7 rfl (tlt (by decide)).2.1 <| oA 11 X72 d20_10 rfl rfl <| oI 12 X72 d20_11 rfl rfl ?_
  have f75 := f71.oth W72 (by omega)
  refine oC 13 (v := (.int pi20)) X72 f75 ⟨by decide, by decide⟩ rfl d20_12 rfl <| oS 15 (l' := #[rr pa1, ii 19, rr pa2, ii 19, ii 22, ii 19, ii pi20]) X72 d20_13 rfl rfl <| oi 17 X72 d20_15 rfl rfl <| o_sipush 20 (v := 255) X72 d20_17 rfl (by decide) <| oY 26 X72 d20_20 (by decide) (flt rg_pi20.2).2.2.2 <| oA 27 X72 d20_26 rfl rfl <| oI 28 X72 d20_27 rfl rfl <| oi 30 X72 d20_28 rfl rfl <| o_i2b 31 (v := (pi20.toInt8.toInt32)) X72 d20_30 rfl rfl ?_
  have f77 := C72.safe (own_lt (by omega)) f73
  refine sB 32 19 (pi20.toInt8.toInt32) X72 V74 (by decide) (lb rfl) (own_narB _) d20_31 rfl (by omega) (Or.inl (by simp)) f77 ?_
  rintro _ _ X76 ⟨_, _, W76⟩ C76 V76
  have := W76.size
  have V78 := V76.as [.int (pi1.toInt8.toInt32), .int (pi2.toInt8.toInt32), .int (pi3.toInt8.toInt32), .int (pi4.toInt8.toInt32), .int (pi5.toInt8.toInt32), .int (pi6.toInt8.toInt32), .int (pi7.toInt8.toInt32), .int (pi8.toInt8.toInt32), .int (pi9.toInt8.toInt32), .int (pi10.toInt8.toInt32), .int (pi11.toInt8.toInt32), .int (pi12.toInt8.toInt32), .int (pi13.toInt8.toInt32), .int (pi14.toInt8.toInt32), .int (pi15.toInt8.toInt32), .int (pi16.toInt8.toInt32), .int (pi17.toInt8.toInt32), .int (pi18.toInt8.toInt32), .int (pi19.toInt8.toInt32), .int (pi20.toInt8.toInt32), i0, i0] rfl
  refine oJ 35 20 #[rr pa1, ii 20, rr pa2, ii 19, ii 22, ii 19, ii pi20] X76 d20_32 rfl rfl (by decide) rfl <| oJ 38 20 #[rr pa1, ii 20, rr pa2, ii 20, ii 22, ii 19, ii pi20] X76 d20_35 rfl rfl (by decide) rfl <| oJ 41 20 #[rr pa1, ii 20, rr pa2, ii 20, ii 22, ii 20, ii pi20] X76 d20_38 rfl rfl (by decide) rfl <| og 3 X76 d20_41 (by decide) <| oi 5 X76 d20_3 rfl rfl <| oi 7 X76 d20_5 rfl rfl <| oN 10 X76 d20_7 rfl (tlt (by decide)).2.1 <| oA 11 X76 d20_10 rfl rfl <| oI 12 X76 d20_11 rfl rfl ?_
  have f79 := f75.oth W76 (by omega)
  refine oC 13 (v := (.int pi21)) X76 f79 ⟨by decide, by decide⟩ rfl d20_12 rfl <| oS 15 (l' := #[rr pa1, ii 20, rr pa2, ii 20, ii 22, ii 20, ii pi21]) X76 d20_13 rfl rfl <| oi 17 X76 d20_15 rfl rfl <| o_sipush 20 (v := 255) X76 d20_17 rfl (by decide) <| oY 26 X76 d20_20 (by decide) (flt rg_pi21.2).2.2.2 <| oA 27 X76 d20_26 rfl rfl <| oI 28 X76 d20_27 rfl rfl <| oi 30 X76 d20_28 rfl rfl <| o_i2b 31 (v := (pi21.toInt8.toInt32)) X76 d20_30 rfl rfl ?_
  have f81 := C76.safe (own_lt (by omega)) f77
  refine sB 32 20 (pi21.toInt8.toInt32) X76 V78 (by decide) (lb rfl) (own_narB _) d20_31 rfl (by omega) (Or.inl (by simp)) f81 ?_
  rintro _ _ X80 ⟨_, _, W80⟩ C80 V80
  have := W80.size
  have V82 := V80.as [.int (pi1.toInt8.toInt32), .int (pi2.toInt8.toInt32), .int (pi3.toInt8.toInt32), .int (pi4.toInt8.toInt32), .int (pi5.toInt8.toInt32), .int (pi6.toInt8.toInt32), .int (pi7.toInt8.toInt32), .int (pi8.toInt8.toInt32), .int (pi9.toInt8.toInt32), .int (pi10.toInt8.toInt32), .int (pi11.toInt8.toInt32), .int (pi12.toInt8.toInt32), .int (pi13.toInt8.toInt32), .int (pi14.toInt8.toInt32), .int (pi15.toInt8.toInt32), .int (pi16.toInt8.toInt32), .int (pi17.toInt8.toInt32), .int (pi18.toInt8.toInt32), .int (pi19.toInt8.toInt32), .int (pi20.toInt8.toInt32), .int (pi21.toInt8.toInt32), i0] rfl
  refine oJ 35 21 #[rr pa1, ii 21, rr pa2, ii 20, ii 22, ii 20, ii pi21] X80 d20_32 rfl rfl (by decide) rfl <| oJ 38 21 #[rr pa1, ii 21, rr pa2, ii 21, ii 22, ii 20, ii pi21] X80 d20_35 rfl rfl (by decide) rfl <| oJ 41 21 #[rr pa1, ii 21, rr pa2, ii 21, ii 22, ii 21, ii pi21] X80 d20_38 rfl rfl (by decide) rfl <| og 3 X80 d20_41 (by decide) <| oi 5 X80 d20_3 rfl rfl <| oi 7 X80 d20_5 rfl rfl <| oN 10 X80 d20_7 rfl (tlt (by decide)).2.1 <| oA 11 X80 d20_10 rfl rfl <| oI 12 X80 d20_11 rfl rfl ?_
  have f83 := f79.oth W80 (by omega)
  refine oC 13 (v := (.int pi22)) X80 f83 ⟨by decide, by decide⟩ rfl d20_12 rfl <| oS 15 (l' := #[rr pa1, ii 21, rr pa2, ii 21, ii 22, ii 21, ii pi22]) X80 d20_13 rfl rfl <| oi 17 X80 d20_15 rfl rfl <| o_sipush 20 (v := 255) X80 d20_17 rfl (by decide) <| oY 26 X80 d20_20 (by decide) (flt rg_pi22.2).2.2.2 <| oA 27 X80 d20_26 rfl rfl <| oI 28 X80 d20_27 rfl rfl <| oi 30 X80 d20_28 rfl rfl <| o_i2b 31 (v := (pi22.toInt8.toInt32)) X80 d20_30 rfl rfl ?_
  have f85 := C80.safe (own_lt (by omega)) f81
  refine sB 32 21 (pi22.toInt8.toInt32) X80 V82 (by decide) (lb rfl) (own_narB _) d20_31 rfl (by omega) (Or.inl (by simp)) f85 ?_
  rintro _ _ X84 ⟨_, _, W84⟩ _ V84
  have := W84.size
  have V86 := V84.as [.int (pi1.toInt8.toInt32), .int (pi2.toInt8.toInt32), .int (pi3.toInt8.toInt32), .int (pi4.toInt8.toInt32), .int (pi5.toInt8.toInt32), .int (pi6.toInt8.toInt32), .int (pi7.toInt8.toInt32), .int (pi8.toInt8.toInt32), .int (pi9.toInt8.toInt32), .int (pi10.toInt8.toInt32), .int (pi11.toInt8.toInt32), .int (pi12.toInt8.toInt32), .int (pi13.toInt8.toInt32), .int (pi14.toInt8.toInt32), .int (pi15.toInt8.toInt32), .int (pi16.toInt8.toInt32), .int (pi17.toInt8.toInt32), .int (pi18.toInt8.toInt32), .int (pi19.toInt8.toInt32), .int (pi20.toInt8.toInt32), .int (pi21.toInt8.toInt32), .int (pi22.toInt8.toInt32)] rfl
  refine oJ 35 22 #[rr pa1, ii 22, rr pa2, ii 21, ii 22, ii 21, ii pi22] X84 d20_32 rfl rfl (by decide) rfl <| oJ 38 22 #[rr pa1, ii 22, rr pa2, ii 22, ii 22, ii 21, ii pi22] X84 d20_35 rfl rfl (by decide) rfl <| oJ 41 22 #[rr pa1, ii 22, rr pa2, ii 22, ii 22, ii 22, ii pi22] X84 d20_38 rfl rfl (by decide) rfl <| og 3 X84 d20_41 (by decide) <| oi 5 X84 d20_3 rfl rfl <| oi 7 X84 d20_5 rfl rfl <| oY 44 X84 d20_7 (by decide) (flt (by decide)).2.1 <| oi 46 X84 d20_44 rfl rfl ?_
  have f87 := (((((((((((((((((((((F2.wr W1).wr W4).wr W8).wr W12).wr W16).wr W20).wr W24).wr W28).wr W32).wr W36).wr W40).wr W44).wr W48).wr W52).wr W56).wr W60).wr W64).wr W68).wr W72).wr W76).wr W80).wr W84
  exact o_iret X84 d20_46 rfl (by decide) (by decide) (fun _ CC => ⟨rfl, V86, f87⟩)
def Q43 (Z : State) (b1 b2 b3 b4 b5 b6 b7 b8 b9 b10 b11 b12 b13 b14 b15 b16 b17 b18 b19 b20 b21 b22 : Int32) (h0 : Heap) (v : Option Value) (h : Heap) (vm : Vm) : Prop := ∃ (xa1 : Addr) (xk1 : ClassId), v = some (.ref xa1) ∧ av0 Z h xa1 xk1 22 [.int (b1.toInt8.toInt32), .int (b2.toInt8.toInt32), .int (b3.toInt8.toInt32), .int (b4.toInt8.toInt32), .int (b5.toInt8.toInt32), .int (b6.toInt8.toInt32), .int (b7.toInt8.toInt32), .int (b8.toInt8.toInt32), .int (b9.toInt8.toInt32), .int (b10.toInt8.toInt32), .int (b11.toInt8.toInt32), .int (b12.toInt8.toInt32), .int (b13.toInt8.toInt32), .int (b14.toInt8.toInt32), .int (b15.toInt8.toInt32), .int (b16.toInt8.toInt32), .int (b17.toInt8.toInt32), .int (b18.toInt8.toInt32), .int (b19.toInt8.toInt32), .int (b20.toInt8.toInt32), .int (b21.toInt8.toInt32), .int (b22.toInt8.toInt32)] ∧ ex3 Z h xa1 ∧ Safe Z EL0 vm h xa1 ∧ h0.size ≤ xa1 ∧ h.size > xa1
theorem rm_au103 (F0 : av1 Z h0 pa1 pk1 22 [.int pi1, .int pi2, .int pi3, .int pi4, .int pi5, .int pi6, .int pi7, .int pi8, .int pi9, .int pi10, .int pi11, .int pi12, .int pi13, .int pi14, .int pi15, .int pi16, .int pi17, .int pi18, .int pi19, .int pi20, .int pi21, .int pi22]) (rg_pi1 : ¬ pi1 < 0 ∧ ¬ (255 : Int32) < pi1) (rg_pi2 : ¬ pi2 < 0 ∧ ¬ (255 : Int32) < pi2) (rg_pi3 : ¬ pi3 < 0 ∧ ¬ (255 : Int32) < pi3) (rg_pi4 : ¬ pi4 < 0 ∧ ¬ (255 : Int32) < pi4) (rg_pi5 : ¬ pi5 < 0 ∧ ¬ (255 : Int32) < pi5) (rg_pi6 : ¬ pi6 < 0 ∧ ¬ (255 : Int32) < pi6) (rg_pi7 : ¬ pi7 < 0 ∧ ¬ (255 : Int32) < pi7) (rg_pi8 : ¬ pi8 < 0 ∧ ¬ (255 : Int32) < pi8) (rg_pi9 : ¬ pi9 < 0 ∧ ¬ (255 : Int32) < pi9) (rg_pi10 : ¬ pi10 < 0 ∧ ¬ (255 : Int32) < pi10) (rg_pi11 : ¬ pi11 < 0 ∧ ¬ (255 : Int32) < pi11) (rg_pi12 : ¬ pi12 < 0 ∧ ¬ (255 : Int32) < pi12) (rg_pi13 : ¬ pi13 < 0 ∧ ¬ (255 : Int32) < pi13) (rg_pi14 : ¬ pi14 < 0 ∧ ¬ (255 : Int32) < pi14) (rg_pi15 : ¬ pi15 < 0 ∧ ¬ (255 : Int32) < pi15) (rg_pi16 : ¬ pi16 < 0 ∧ ¬ (255 : Int32) < pi16) (rg_pi17 : ¬ pi17 < 0 ∧ ¬ (255 : Int32) < pi17) (rg_pi18 : ¬ pi18 < 0 ∧ ¬ (255 : Int32) < pi18) (rg_pi19 : ¬ pi19 < 0 ∧ ¬ (255 : Int32) < pi19) (rg_pi20 : ¬ pi20 < 0 ∧ ¬ (255 : Int32) < pi20) (rg_pi21 : ¬ pi21 < 0 ∧ ¬ (255 : Int32) < pi21) (rg_pi22 : ¬ pi22 < 0 ∧ ¬ (255 : Int32) < pi22) : M19 G 1 1 22 18 #[.ref pa1, i0, .int 22] h0 n0 [] [] (Q43 Z pi1 pi2 pi3 pi4 pi5 pi6 pi7 pi8 pi9 pi10 pi11 pi12 pi13 pi14 pi15 pi16 pi17 pi18 pi19 pi20 pi21 pi22 h0) := by
  refine mi B19 ef13 (hEW G) fun s X0 hsf0 n0le => ?_
  have l1 := F0.l
  refine oI 1 X0 d19_0 rfl rfl <| nP (aty := .byte) 3 22 X0 (w3 G) d19_1 rfl (by decide) had_byte ?_
  intro _ h1 b1 k1 X1 _ l1 E1 V1 A1 _ S1
  have V2 : av0 Z h1 b1 k1 22 [i0, i0, i0, i0, i0, i0, i0, i0, i0, i0, i0, i0, i0, i0, i0, i0, i0, i0, i0, i0, i0, i0] := V1.pad (pad_rep [] (.int (0 : Int32)) 22)
  refine oV 4 (l' := #[rr pa1, ii 0, ii 22, rr b1, uu, uu]) X1 d19_3 rfl rfl rfl <| oA 5 X1 d19_4 rfl rfl <| oI 6 X1 d19_5 rfl rfl <| oA 7 X1 d19_6 rfl rfl <| oc 8 (v := 0) X1 d19_7 rfl (by decide) <| oI 9 X1 d19_8 rfl rfl ?_
  have f3 := F0.ext E1
  refine mS 12 0 X1 (rm_au102 G f3 V2 A1 rg_pi1 rg_pi2 rg_pi3 rg_pi4 rg_pi5 rg_pi6 rg_pi7 rg_pi8 rg_pi9 rg_pi10 rg_pi11 rg_pi12 rg_pi13 rg_pi14 rg_pi15 rg_pi16 rg_pi17 rg_pi18 rg_pi19 rg_pi20 rg_pi21 rg_pi22 (by omega)) (u17 G) (sS (by omega) S1 all0) d19_9 rfl rfl rfl lr (by decide) (aR (by omega) all0) ?_
  rintro _ _ _ _ X4 ⟨rfl, q5, q6⟩ _ _ C4
  refine oS 14 (l' := #[rr pa1, ii 0, ii 22, rr b1, ii 22, uu]) X4 d19_12 rfl rfl <| oi 16 X4 d19_14 rfl rfl <| oI 17 X4 d19_16 rfl rfl <| oY 57 X4 d19_17 (by decide) (teq (by decide)).1 <| oA 58 X4 d19_57 rfl rfl ?_
  have f7 := C4.safe (own_lt (by omega)) S1
  exact oR X4 d19_58 rfl rfl rfl (by decide) (by decide) (fun _ CC => ⟨b1, k1, rfl, q5, q6, (CC.safe (own_lt (by omega)) f7), by omega⟩)
theorem rm_au104 (F0 : av0 Z h0 pa1 pk1 22 ps_pa1) : M21 G 0 0 0 0 #[.ref pa1, .int 22] h0 n0 [] [] (Q4 Z  h0) := by
  refine mi B21 ef0 (hEW G) fun s X0 hsf0 n0le => ?_
  have := F0.l
  refine oI 1 X0 d21_0 rfl rfl <| oA 2 X0 d21_1 rfl rfl <| oL 3 X0 F0 d21_2 rfl <| o_isub 4 (v := 0) X0 d21_3 rfl (by decide) <| ob 6 (v := 31) X0 d21_4 rfl (by decide) <| o_iushr 7 (v := 0) X0 d21_6 rfl (by decide) <| o_i2b 8 (v := 0) X0 d21_7 rfl (by decide) ?_
  exact o_nret (y := (0 : Int32)) (t := .byte) X0 d21_8 rfl (by decide) (by simp) (by decide) (by decide) (fun _ CC => rfl)
def Q44 (Z : State) (b1 : Addr) (b2 b3 b4 b5 b6 b7 b8 b9 b10 b11 b12 b13 b14 b15 b16 b17 b18 b19 b20 b21 b22 b23 : Int32) (h0 : Heap) (v : Option Value) (h : Heap) (vm : Vm) : Prop := ∃ (xa1 : Addr) (xk1 : ClassId), v = none ∧ ex0 Z h b1 ∧ fd0 Z h b1 (.int 0) ∧ fd1 Z h b1 (.ref xa1) ∧ av0 Z h xa1 xk1 22 [.int (b2.toInt8.toInt32), .int (b3.toInt8.toInt32), .int (b4.toInt8.toInt32), .int (b5.toInt8.toInt32), .int (b6.toInt8.toInt32), .int (b7.toInt8.toInt32), .int (b8.toInt8.toInt32), .int (b9.toInt8.toInt32), .int (b10.toInt8.toInt32), .int (b11.toInt8.toInt32), .int (b12.toInt8.toInt32), .int (b13.toInt8.toInt32), .int (b14.toInt8.toInt32), .int (b15.toInt8.toInt32), .int (b16.toInt8.toInt32), .int (b17.toInt8.toInt32), .int (b18.toInt8.toInt32), .int (b19.toInt8.toInt32), .int (b20.toInt8.toInt32), .int (b21.toInt8.toInt32), .int (b22.toInt8.toInt32), .int (b23.toInt8.toInt32)] ∧ ex3 Z h xa1 ∧ Safe Z EL0 vm h xa1 ∧ h0.size ≤ xa1 ∧ h.size > xa1
theorem rm_au105 (F0 : ex0 Z h0 pa1) (F1 : fd0 Z h0 pa1 (.int pi1)) (F2 : fd1 Z h0 pa1 .null) (F3 : av1 Z h0 pa2 pk1 22 [.int pi2, .int pi3, .int pi4, .int pi5, .int pi6, .int pi7, .int pi8, .int pi9, .int pi10, .int pi11, .int pi12, .int pi13, .int pi14, .int pi15, .int pi16, .int pi17, .int pi18, .int pi19, .int pi20, .int pi21, .int pi22, .int pi23]) (rg_pi2 : ¬ pi2 < 0 ∧ ¬ (255 : Int32) < pi2) (rg_pi3 : ¬ pi3 < 0 ∧ ¬ (255 : Int32) < pi3) (rg_pi4 : ¬ pi4 < 0 ∧ ¬ (255 : Int32) < pi4) (rg_pi5 : ¬ pi5 < 0 ∧ ¬ (255 : Int32) < pi5) (rg_pi6 : ¬ pi6 < 0 ∧ ¬ (255 : Int32) < pi6) (rg_pi7 : ¬ pi7 < 0 ∧ ¬ (255 : Int32) < pi7) (rg_pi8 : ¬ pi8 < 0 ∧ ¬ (255 : Int32) < pi8) (rg_pi9 : ¬ pi9 < 0 ∧ ¬ (255 : Int32) < pi9) (rg_pi10 : ¬ pi10 < 0 ∧ ¬ (255 : Int32) < pi10) (rg_pi11 : ¬ pi11 < 0 ∧ ¬ (255 : Int32) < pi11) (rg_pi12 : ¬ pi12 < 0 ∧ ¬ (255 : Int32) < pi12) (rg_pi13 : ¬ pi13 < 0 ∧ ¬ (255 : Int32) < pi13) (rg_pi14 : ¬ pi14 < 0 ∧ ¬ (255 : Int32) < pi14) (rg_pi15 : ¬ pi15 < 0 ∧ ¬ (255 : Int32) < pi15) (rg_pi16 : ¬ pi16 < 0 ∧ ¬ (255 : Int32) < pi16) (rg_pi17 : ¬ pi17 < 0 ∧ ¬ (255 : Int32) < pi17) (rg_pi18 : ¬ pi18 < 0 ∧ ¬ (255 : Int32) < pi18) (rg_pi19 : ¬ pi19 < 0 ∧ ¬ (255 : Int32) < pi19) (rg_pi20 : ¬ pi20 < 0 ∧ ¬ (255 : Int32) < pi20) (rg_pi21 : ¬ pi21 < 0 ∧ ¬ (255 : Int32) < pi21) (rg_pi22 : ¬ pi22 < 0 ∧ ¬ (255 : Int32) < pi22) (rg_pi23 : ¬ pi23 < 0 ∧ ¬ (255 : Int32) < pi23) (ne : NE pa1 pa2 ∧ n0 ≤ pa1) : M18 G 2 1 22 35 #[.ref pa1, .ref pa2, i0, .int 22, .null] h0 n0 [pa1] [pa1] (Q44 Z pa1 pi2 pi3 pi4 pi5 pi6 pi7 pi8 pi9 pi10 pi11 pi12 pi13 pi14 pi15 pi16 pi17 pi18 pi19 pi20 pi21 pi22 pi23 h0) := by
  refine mi B18 ef12 (hEW G) fun s X0 hsf0 n0le => ?_
  have := F0.l
  have := F3.l
  have sf_pa1 := hsf0 pa1 (by simp)
  refine oA 1 X0 d18_0 rfl rfl <| o_initO 4 (W := 0) X0 (w60 G) (w61 G) (w62 G) rfl (by decide) (Nat.le_of_eq rfl) (by decide) d18_1 rfl ?_
  intro _ X2
  refine oI 5 X2 d18_4 rfl rfl <| oy 27 X2 d18_5 (by decide) ((if0 _ _).trans (feq (by decide)).2) <| oG 30 X2 (w25 G) Via.refl ((sg15 G).ext X2.old.2) d18_27 rfl ?_
  intro _ X4
  refine on 33 X4 d18_30 rfl ((if0 _ _).trans (feq (hzc G)).1) <| oA 34 X4 d18_33 rfl rfl <| oI 35 X4 d18_34 rfl rfl <| oI 36 X4 d18_35 rfl rfl <| mS 39 0 X4 (rm_au103 G F3 rg_pi2 rg_pi3 rg_pi4 rg_pi5 rg_pi6 rg_pi7 rg_pi8 rg_pi9 rg_pi10 rg_pi11 rg_pi12 rg_pi13 rg_pi14 rg_pi15 rg_pi16 rg_pi17 rg_pi18 rg_pi19 rg_pi20 rg_pi21 rg_pi22 rg_pi23) (u18 G) all0 d18_36 rfl rfl rfl lr (by decide) all0 ?_
  rintro _ _ _ _ X5 ⟨xa1_6, xk1_7, rfl, q8, q9, q10, _⟩ K5 _ C5
  refine oU 41 (l' := #[rr pa1, rr pa2, ii 0, ii 22, .val .null, rr xa1_6]) X5 d18_39 rfl rfl rfl <| oA 42 X5 d18_41 rfl rfl <| oa 44 X5 d18_42 rfl rfl <| oI 45 X5 d18_44 rfl rfl <| mS 48 1 X5 (rm_au104 G q8) (u19 G) all0 d18_45 rfl rfl rfl lr (by decide) all0 ?_
  rintro _ _ _ _ X12 rfl K12 _ C12
  have f13 := (F1.k0 K5).k0 K12
  have f14 := (F0.keep K5).keep K12
  have f16 := C12.safe (own_lt (by omega)) (C5.safe (own_lt (by omega)) sf_pa1)
  refine oP 51 (v' := (.int 0)) X12 (w26 G) Via.refl f13 f14 (Or.inr ⟨(w5 G), rfl, rfl⟩) (w2 G) fd_1 rfl rfl d18_48 rfl (by omega) (Or.inl (by simp)) f16 ?_
  intro _ _ X15 W15 C15
  have := W15.size
  have f17 := f13.same W15
  refine oA 52 X15 d18_51 rfl rfl <| oa 54 X15 d18_52 rfl rfl ?_
  have f18 := ((F2.k0 K5).k0 K12).other W15 (Or.inr (sn0 G))
  have f19 := f14.wr W15
  have f21 := C15.safe (own_lt (by omega)) f16
  refine oP 57 (v' := (.ref xa1_6)) X15 (w19 G) Via.refl f18 f19 (Or.inr ⟨(w4 G), rfl, rfl⟩) (w2 G) fd_0 rfl rfl d18_54 rfl (by omega) (Or.inl (by simp)) f21 ?_
  intro _ _ X20 W20 C20
  have := W20.size
  have f22 := f18.same W20
  have f23 := f19.wr W20
  have f24 := f17.other W20 (Or.inr (sn1 G))
  have f25 := ((q8.k0 K12).oth W15 (by omega)).oth W20 (by omega)
  have f26 := ((q9.keep K12).wr W15).wr W20
  have f27 := C20.safe (own_lt (by omega)) (C15.safe (own_lt (by omega)) (C12.safe (own_lt (by omega)) q10))
  exact oz X20 d18_57 rfl (by decide) (by decide) (fun _ CC => ⟨xa1_6, xk1_7, rfl, f23, f24, f22, f25, f26, (CC.safe (own_lt (by omega)) f27), by omega⟩)
theorem rm_au106 (F0 : ex0 Z h0 pa1) (F1 : fd0 Z h0 pa1 (.int pi100)) (F2 : fd1 Z h0 pa1 .null) (F3 : av1 Z h0 pa2 pk1 22 [.int pi1, .int pi2, .int pi3, .int pi4, .int pi5, .int pi6, .int pi7, .int pi8, .int pi9, .int pi10, .int pi11, .int pi12, .int pi13, .int pi14, .int pi15, .int pi16, .int pi17, .int pi18, .int pi19, .int pi20, .int pi21, .int pi22]) (rg_pi1 : ¬ pi1 < 0 ∧ ¬ (255 : Int32) < pi1) (rg_pi2 : ¬ pi2 < 0 ∧ ¬ (255 : Int32) < pi2) (rg_pi3 : ¬ pi3 < 0 ∧ ¬ (255 : Int32) < pi3) (rg_pi4 : ¬ pi4 < 0 ∧ ¬ (255 : Int32) < pi4) (rg_pi5 : ¬ pi5 < 0 ∧ ¬ (255 : Int32) < pi5) (rg_pi6 : ¬ pi6 < 0 ∧ ¬ (255 : Int32) < pi6) (rg_pi7 : ¬ pi7 < 0 ∧ ¬ (255 : Int32) < pi7) (rg_pi8 : ¬ pi8 < 0 ∧ ¬ (255 : Int32) < pi8) (rg_pi9 : ¬ pi9 < 0 ∧ ¬ (255 : Int32) < pi9) (rg_pi10 : ¬ pi10 < 0 ∧ ¬ (255 : Int32) < pi10) (rg_pi11 : ¬ pi11 < 0 ∧ ¬ (255 : Int32) < pi11) (rg_pi12 : ¬ pi12 < 0 ∧ ¬ (255 : Int32) < pi12) (rg_pi13 : ¬ pi13 < 0 ∧ ¬ (255 : Int32) < pi13) (rg_pi14 : ¬ pi14 < 0 ∧ ¬ (255 : Int32) < pi14) (rg_pi15 : ¬ pi15 < 0 ∧ ¬ (255 : Int32) < pi15) (rg_pi16 : ¬ pi16 < 0 ∧ ¬ (255 : Int32) < pi16) (rg_pi17 : ¬ pi17 < 0 ∧ ¬ (255 : Int32) < pi17) (rg_pi18 : ¬ pi18 < 0 ∧ ¬ (255 : Int32) < pi18) (rg_pi19 : ¬ pi19 < 0 ∧ ¬ (255 : Int32) < pi19) (rg_pi20 : ¬ pi20 < 0 ∧ ¬ (255 : Int32) < pi20) (rg_pi21 : ¬ pi21 < 0 ∧ ¬ (255 : Int32) < pi21) (rg_pi22 : ¬ pi22 < 0 ∧ ¬ (255 : Int32) < pi22) (ne : NE pa1 pa2 ∧ n0 ≤ pa1) : M17 G 3 1 22 52 #[.ref pa1, .ref pa2] h0 n0 [pa1] [pa1] (Q44 Z pa1 pi1 pi2 pi3 pi4 pi5 pi6 pi7 pi8 pi9 pi10 pi11 pi12 pi13 pi14 pi15 pi16 pi17 pi18 pi19 pi20 pi21 pi22 h0) := by
  refine mi B17 ef11 (hEW G) fun s X0 hsf0 n0le => ?_
  have := F0.l
  have := F3.l
  have sf_pa1 := hsf0 pa1 (by simp)
  refine oA 1 X0 d17_0 rfl rfl <| oA 2 X0 d17_1 rfl rfl <| oc 3 (v := 0) X0 d17_2 rfl (by decide) <| oA 4 X0 d17_3 rfl rfl <| oL 5 X0 F3 d17_4 rfl <| o_aconstNull 6 X0 d17_5 rfl <| mP 9 0 X0 (rm_au105 G F0 F1 F2 F3 rg_pi1 rg_pi2 rg_pi3 rg_pi4 rg_pi5 rg_pi6 rg_pi7 rg_pi8 rg_pi9 rg_pi10 rg_pi11 rg_pi12 rg_pi13 rg_pi14 rg_pi15 rg_pi16 rg_pi17 rg_pi18 rg_pi19 rg_pi20 rg_pi21 rg_pi22 (by omega)) (u20 G) (sS (by omega) sf_pa1 all0) d17_6 rfl rfl rfl lr (by decide) (aI (by omega) (by simp) all0) ?_
  rintro _ _ _ _ X1 ⟨xa1_2, xk1_3, rfl, q4, q5, q6, q7, q8, q9, _⟩ _ _ _
  exact oz X1 d17_9 rfl (by decide) (by decide) (fun _ CC => ⟨xa1_2, xk1_3, rfl, q4, q5, q6, q7, q8, (CC.safe (own_lt (by omega)) q9), by omega⟩)
def Q45 (Z : State) (b1 b2 b3 b4 b5 b6 b7 b8 b9 b10 b11 b12 b13 b14 b15 b16 b17 b18 b19 b20 b21 b22 : Int32) (h0 : Heap) (v : Option Value) (h : Heap) (vm : Vm) : Prop := ∃ (xa1 : Addr) (xa2 : Addr) (xk1 : ClassId), v = some (.ref xa1) ∧ ex0 Z h xa1 ∧ fd0 Z h xa1 (.int 0) ∧ fd1 Z h xa1 (.ref xa2) ∧ Safe Z EL0 vm h xa1 ∧ av0 Z h xa2 xk1 22 [.int (b1.toInt8.toInt32), .int (b2.toInt8.toInt32), .int (b3.toInt8.toInt32), .int (b4.toInt8.toInt32), .int (b5.toInt8.toInt32), .int (b6.toInt8.toInt32), .int (b7.toInt8.toInt32), .int (b8.toInt8.toInt32), .int (b9.toInt8.toInt32), .int (b10.toInt8.toInt32), .int (b11.toInt8.toInt32), .int (b12.toInt8.toInt32), .int (b13.toInt8.toInt32), .int (b14.toInt8.toInt32), .int (b15.toInt8.toInt32), .int (b16.toInt8.toInt32), .int (b17.toInt8.toInt32), .int (b18.toInt8.toInt32), .int (b19.toInt8.toInt32), .int (b20.toInt8.toInt32), .int (b21.toInt8.toInt32), .int (b22.toInt8.toInt32)] ∧ ex3 Z h xa2 ∧ Safe Z EL0 vm h xa2 ∧ h0.size ≤ xa1 ∧ h.size > xa1 ∧ h0.size ≤ xa2 ∧ h.size > xa2 ∧ NE xa1 xa2
theorem rm_au107 (F0 : av1 Z h0 pa1 pk1 22 [.int pi1, .int pi2, .int pi3, .int pi4, .int pi5, .int pi6, .int pi7, .int pi8, .int pi9, .int pi10, .int pi11, .int pi12, .int pi13, .int pi14, .int pi15, .int pi16, .int pi17, .int pi18, .int pi19, .int pi20, .int pi21, .int pi22]) (rg_pi1 : ¬ pi1 < 0 ∧ ¬ (255 : Int32) < pi1) (rg_pi2 : ¬ pi2 < 0 ∧ ¬ (255 : Int32) < pi2) (rg_pi3 : ¬ pi3 < 0 ∧ ¬ (255 : Int32) < pi3) (rg_pi4 : ¬ pi4 < 0 ∧ ¬ (255 : Int32) < pi4) (rg_pi5 : ¬ pi5 < 0 ∧ ¬ (255 : Int32) < pi5) (rg_pi6 : ¬ pi6 < 0 ∧ ¬ (255 : Int32) < pi6) (rg_pi7 : ¬ pi7 < 0 ∧ ¬ (255 : Int32) < pi7) (rg_pi8 : ¬ pi8 < 0 ∧ ¬ (255 : Int32) < pi8) (rg_pi9 : ¬ pi9 < 0 ∧ ¬ (255 : Int32) < pi9) (rg_pi10 : ¬ pi10 < 0 ∧ ¬ (255 : Int32) < pi10) (rg_pi11 : ¬ pi11 < 0 ∧ ¬ (255 : Int32) < pi11) (rg_pi12 : ¬ pi12 < 0 ∧ ¬ (255 : Int32) < pi12) (rg_pi13 : ¬ pi13 < 0 ∧ ¬ (255 : Int32) < pi13) (rg_pi14 : ¬ pi14 < 0 ∧ ¬ (255 : Int32) < pi14) (rg_pi15 : ¬ pi15 < 0 ∧ ¬ (255 : Int32) < pi15) (rg_pi16 : ¬ pi16 < 0 ∧ ¬ (255 : Int32) < pi16) (rg_pi17 : ¬ pi17 < 0 ∧ ¬ (255 : Int32) < pi17) (rg_pi18 : ¬ pi18 < 0 ∧ ¬ (255 : Int32) < pi18) (rg_pi19 : ¬ pi19 < 0 ∧ ¬ (255 : Int32) < pi19) (rg_pi20 : ¬ pi20 < 0 ∧ ¬ (255 : Int32) < pi20) (rg_pi21 : ¬ pi21 < 0 ∧ ¬ (255 : Int32) < pi21) (rg_pi22 : ¬ pi22 < 0 ∧ ¬ (255 : Int32) < pi22) (pc_0 : ¬ pi100 = (0 : Int32)) (pc_1 : ¬ pi100 = (1 : Int32)) (pc_2 : ¬ pi100 = (2 : Int32)) (pc_3 : ¬ pi100 = (3 : Int32)) (pc_4 : ¬ pi100 = (4 : Int32)) (pc_5 : ¬ pi100 = (5 : Int32)) (pc_6 : ¬ pi100 = (6 : Int32)) : M10 G 4 2 26 66 #[.ref pa1, .int pi100] h0 n0 [] [] (Q45 Z pi1 pi2 pi3 pi4 pi5 pi6 pi7 pi8 pi9 pi10 pi11 pi12 pi13 pi14 pi15 pi16 pi17 pi18 pi19 pi20 pi21 pi22 h0) := by
  refine mi B10 ef0 (hEW G) fun s X0 hsf0 n0le => ?_
  have l1 := F0.l
  refine oI 1 X0 d10_0 rfl rfl <| oy 7 X0 d10_1 (by decide) ((if0 _ _).trans (feq pc_0).2) <| oI 8 X0 d10_7 rfl rfl <| oc 9 (v := 1) X0 d10_8 rfl (by decide) <| oY 41 X0 d10_9 (by decide) (feq pc_1).2 <| oI 42 X0 d10_41 rfl rfl <| oc 43 (v := 2) X0 d10_42 rfl (by decide) <| oY 81 X0 d10_43 (by decide) (feq pc_2).2 <| oI 82 X0 d10_81 rfl rfl <| oc 83 (v := 3) X0 d10_82 rfl (by decide) <| oY 127 X0 d10_83 (by decide) (feq pc_3).2 <| oI 128 X0 d10_127 rfl rfl ?_
  refine oc 129 (v := 4) X0 d10_128 rfl (by decide) <| oY 180 X0 d10_129 (by decide) (feq pc_4).2 <| oI 181 X0 d10_180 rfl rfl <| oc 182 (v := 5) X0 d10_181 rfl (by decide) <| oY 345 X0 d10_182 (by decide) (feq pc_5).2 <| oI 346 X0 d10_345 rfl rfl <| ob 348 (v := 6) X0 d10_346 rfl (by decide) <| oY 519 X0 d10_348 (by decide) (feq pc_6).2 <| o_new 522 X0 (w52 G) (w2 G) (w1 G) d10_519 rfl (by decide) (by decide) ?_
  intro _ h1 b1 X1 _ l1 E1 A1 D1 _ _ S1
  have f2 : fd1 Z h1 b1 .null := D1 (Or.inr (w4 G)) fd_0
  have f3 : fd0 Z h1 b1 (.int 0) := D1 (Or.inr (w5 G)) fd_1
  refine oD 523 X1 d10_522 rfl rfl <| oA 524 X1 d10_523 rfl rfl ?_
  have f4 := F0.ext E1
  refine mP 527 1 X1 (rm_au106 G A1 f3 f2 f4 rg_pi1 rg_pi2 rg_pi3 rg_pi4 rg_pi5 rg_pi6 rg_pi7 rg_pi8 rg_pi9 rg_pi10 rg_pi11 rg_pi12 rg_pi13 rg_pi14 rg_pi15 rg_pi16 rg_pi17 rg_pi18 rg_pi19 rg_pi20 rg_pi21 rg_pi22 (by omega)) (u21 G) (sS (by omega) S1 all0) d10_524 rfl rfl rfl lr (by decide) (aR (by omega) all0) ?_
  rintro _ _ _ _ X5 ⟨xa1_6, xk1_7, rfl, q8, q9, q10, q11, q12, q13, _⟩ _ _ C5
  have f15 := C5.safe (own_lt (by omega)) S1
  exact oR X5 d10_527 rfl rfl rfl (by decide) (by decide) (fun _ CC => ⟨b1, xa1_6, xk1_7, rfl, q8, q9, q10, (CC.safe (own_lt (by omega)) f15), q11, q12, (CC.safe (own_lt (by omega)) q13), by omega⟩)
theorem rm_law (G : GL l Z a0 zc fmt oem vva kvv ku1 ku2 ku3 ku4 su1 tu1 ktu1 su2 tu2 ktu2 su3 tu3 ktu3 su4 tu4 ktu4) (wl : List Jvm.Cond) (p1 p2 p3 p4 p5 : Int32) {h0 : Heap} {n0 : Nat}  :
    Old Z n0 h0 → Met l x code maxLocals ret wl room_1 Z #[.int p1, .int p2, .int p3, .int p4, .int p5] h0 n0 [] EL0 false [] (Q3 Z  h0) := by
  have hw := G.1
  refine mi B9 ef6 (hEW G) fun s X0 hsf0 n0le => ?_
  have gl_su1 := ltg_su1 G X0.old
  have gl_su2 := ltg_su2 G X0.old
  have gl_su3 := ltg_su3 G X0.old
  have gl_su4 := ltg_su4 G X0.old
  refine oI 1 X0 at_0 rfl rfl <| oc 2 (v := 3) X0 at_1 rfl (by decide) ?_
  rcases own_and3 p1 with hk1 | hk1 | hk1 | hk1
  · refine o_iand 3 (v := 0) X0 at_2 rfl hk1 <| oS 5 (l' := #[ii p1, ii p2, ii p3, ii p4, ii p5, ii 0, uu, uu, uu, uu, uu, uu, uu]) X0 at_3 rfl rfl <| oi 7 X0 at_5 rfl rfl <| on 10 X0 at_7 rfl ((if0 _ _).trans (teq (by decide)).2) <| o_ldcC 12 (n := 16) (vs := own_bs ([117, 115, 101, 114] : List Int32)) (z := (4 : Int32)) X0 (w0 G) (hws_str hw) (by decide) ⟨by decide, rfl⟩ (by decide) (by decide) at_10 rfl (by decide) (by decide) (by decide) (by decide) ?_
    intro a2 b2 kb2 _ h2 _ X2 E2 _ Es2 Cs2 Vs2 As2 _
    have lta2 : h2.size > a2 := Es2.lt
    have ltb2 : h2.size > b2 := As2.lt
    have := E2.1
    have Bs2 : av0 Z h2 b2 kb2 4 [.int 117, .int 115, .int 101, .int 114] := As2
    refine oU 14 (l' := #[ii p1, ii p2, ii p3, ii p4, ii p5, ii 0, rr a2, uu, uu, uu, uu, uu, uu]) X2 at_12 rfl rfl rfl <| og 47 X2 at_14 (by decide) ?_
    refine jn 62 (fun _ => True) (fun a => #[ii p1, ii p2, ii p3, ii p4, ii p5, ii 0, rr a2, ii a, uu, uu, uu, uu, uu]) ?_ ?_
    · intro mm3 _
      show Go _ _ _ _ (State.setTop _ (mkF _ 62 #[ii p1, ii p2, ii p3, ii p4, ii p5, ii 0, rr a2, ii mm3, uu, uu, uu, uu, uu] []))
      refine oI 63 X2 at_62 rfl rfl <| o_ldcI 65 (v := (2147483647 : Int32)) X2 (w8 G) at_63 rfl <| o_iand 66 (v := (p3 &&& (2147483647 : Int32))) X2 at_65 rfl rfl <| ob 68 (v := 22) X2 at_66 rfl (by decide) ?_
      obtain ⟨po4, hpo4⟩ : ∃ z : Int32, ((p3 &&& (2147483647 : Int32)) % (22 : Int32)) = z := ⟨_, rfl⟩
      refine o_irem 69 (v := po4) X2 at_68 rfl (by decide) hpo4 <| oS 71 (l' := #[ii p1, ii p2, ii p3, ii p4, ii p5, ii 0, rr a2, ii mm3, ii po4, uu, uu, uu, uu]) X2 at_69 rfl rfl <| ob 73 (v := 22) X2 at_71 rfl (by decide) <| nP (aty := .char) 75 22 X2 (w9 G) at_73 rfl (by decide) had_char ?_
      intro _ h5 b5 k5 X5 _ _ E5 V5 A5 _ _
      have V6 : av1 Z h5 b5 k5 22 [i0, i0, i0, i0, i0, i0, i0, i0, i0, i0, i0, i0, i0, i0, i0, i0, i0, i0, i0, i0, i0, i0] := V5.pad (pad_rep [] (.int (0 : Int32)) 22)
      refine oD 76 X5 at_75 rfl rfl <| oc 77 (v := 0) X5 at_76 rfl (by decide) <| oa 79 X5 at_77 rfl rfl <| oc 80 (v := 0) X5 at_79 rfl (by decide) <| oi 82 X5 at_80 rfl rfl <| oI 83 X5 at_82 rfl rfl <| oi 85 X5 at_83 rfl rfl <| oi 87 X5 at_85 rfl rfl ?_
      have f7 := Es2.ext E5
      have f8 := Cs2.ext E5
      have f9 := Vs2.ext E5
      have f10 := Bs2.ext E5
      refine mS 90 3 X5 (rm_ch_u0 G f7 f8 f9 f10 (by decide) (by decide)) (u7 G) all0 at_87 rfl rfl rfl lr (by decide) all0 ?_
      rintro _ _ _ _ X11 ⟨xi1_12, rfl, q13⟩ K11 _ _
      have f14 := V6.k0 K11
      have f16 := A5.keep K11
      refine sC 91 0 xi1_12 X11 f14 (by decide) (lb rfl) (own_narC q13) at_90 rfl (by omega) (Or.inr (by omega)) (sx X11 f16 nc0) ?_
      rintro _ _ X15 ⟨_, _, W15⟩ _ V15
      have := W15.size
      have V17 := V15.as [.int xi1_12, i0, i0, i0, i0, i0, i0, i0, i0, i0, i0, i0, i0, i0, i0, i0, i0, i0, i0, i0, i0, i0] rfl
      refine oD 92 X15 at_91 rfl rfl <| oc 93 (v := 1) X15 at_92 rfl (by decide) <| oa 95 X15 at_93 rfl rfl <| oc 96 (v := 1) X15 at_95 rfl (by decide) <| oi 98 X15 at_96 rfl rfl <| oI 99 X15 at_98 rfl rfl <| oi 101 X15 at_99 rfl rfl <| oi 103 X15 at_101 rfl rfl ?_
      have f18 := (f7.keep K11).wr W15
      have f19 := (f8.k0 K11).oth W15 (by omega)
      have f20 := (f9.k0 K11).oth W15 (by omega)
      have f21 := (f10.k0 K11).oth W15 (by omega)
      refine mS 106 3 X15 (rm_ch_u0 G f18 f19 f20 f21 (by decide) (by decide)) (u7 G) all0 at_103 rfl rfl rfl lr (by decide) all0 ?_
      rintro _ _ _ _ X22 ⟨xi1_23, rfl, q24⟩ K22 _ _
      have f25 := V17.k0 K22
      have f27 := (f16.wr W15).keep K22
      refine sC 107 1 xi1_23 X22 f25 (by decide) (lb rfl) (own_narC q24) at_106 rfl (by omega) (Or.inr (by omega)) (sx X22 f27 nc0) ?_
      rintro _ _ X26 ⟨_, _, W26⟩ _ V26
      have := W26.size
      have V28 := V26.as [.int xi1_12, .int xi1_23, i0, i0, i0, i0, i0, i0, i0, i0, i0, i0, i0, i0, i0, i0, i0, i0, i0, i0, i0, i0] rfl
      refine oD 108 X26 at_107 rfl rfl <| oc 109 (v := 2) X26 at_108 rfl (by decide) <| oa 111 X26 at_109 rfl rfl <| oc 112 (v := 2) X26 at_111 rfl (by decide) <| oi 114 X26 at_112 rfl rfl <| oI 115 X26 at_114 rfl rfl <| oi 117 X26 at_115 rfl rfl <| oi 119 X26 at_117 rfl rfl ?_
      have f29 := (f18.keep K22).wr W26
      have f30 := (f19.k0 K22).oth W26 (by omega)
      have f31 := (f20.k0 K22).oth W26 (by omega)
      have f32 := (f21.k0 K22).oth W26 (by omega)
      refine mS 122 3 X26 (rm_ch_u0 G f29 f30 f31 f32 (by decide) (by decide)) (u7 G) all0 at_119 rfl rfl rfl lr (by decide) all0 ?_
      rintro _ _ _ _ X33 ⟨xi1_34, rfl, q35⟩ K33 _ _
      have f36 := V28.k0 K33
      have f38 := (f27.wr W26).keep K33
      refine sC 123 2 xi1_34 X33 f36 (by decide) (lb rfl) (own_narC q35) at_122 rfl (by omega) (Or.inr (by omega)) (sx X33 f38 nc0) ?_
      rintro _ _ X37 ⟨_, _, W37⟩ _ V37
      have := W37.size
      have V39 := V37.as [.int xi1_12, .int xi1_23, .int xi1_34, i0, i0, i0, i0, i0, i0, i0, i0, i0, i0, i0, i0, i0, i0, i0, i0, i0, i0, i0] rfl
      refine oD 124 X37 at_123 rfl rfl <| oc 125 (v := 3) X37 at_124 rfl (by decide) <| oa 127 X37 at_125 rfl rfl <| oc 128 (v := 3) X37 at_127 rfl (by decide) <| oi 130 X37 at_128 rfl rfl <| oI 131 X37 at_130 rfl rfl <| oi 133 X37 at_131 rfl rfl <| oi 135 X37 at_133 rfl rfl ?_
      have f40 := (f29.keep K33).wr W37
      have f41 := (f30.k0 K33).oth W37 (by omega)
      have f42 := (f31.k0 K33).oth W37 (by omega)
      have f43 := (f32.k0 K33).oth W37 (by omega)
      refine mS 138 3 X37 (rm_ch_u0 G f40 f41 f42 f43 (by decide) (by decide)) (u7 G) all0 at_135 rfl rfl rfl lr (by decide) all0 ?_
      rintro _ _ _ _ X44 ⟨xi1_45, rfl, q46⟩ K44 _ _
      have f47 := V39.k0 K44
      have f49 := (f38.wr W37).keep K44
      refine sC 139 3 xi1_45 X44 f47 (by decide) (lb rfl) (own_narC q46) at_138 rfl (by omega) (Or.inr (by omega)) (sx X44 f49 nc0) ?_
      rintro _ _ X48 ⟨_, _, W48⟩ _ V48
      have := W48.size
      have V50 := V48.as [.int xi1_12, .int xi1_23, .int xi1_34, .int xi1_45, i0, i0, i0, i0, i0, i0, i0, i0, i0, i0, i0, i0, i0, i0, i0, i0, i0, i0] rfl
      refine oD 140 X48 at_139 rfl rfl <| oc 141 (v := 4) X48 at_140 rfl (by decide) <| oa 143 X48 at_141 rfl rfl <| oc 144 (v := 4) X48 at_143 rfl (by decide) <| oi 146 X48 at_144 rfl rfl <| oI 147 X48 at_146 rfl rfl <| oi 149 X48 at_147 rfl rfl <| oi 151 X48 at_149 rfl rfl ?_
      have f51 := (f40.keep K44).wr W48
      have f52 := (f41.k0 K44).oth W48 (by omega)
      have f53 := (f42.k0 K44).oth W48 (by omega)
      have f54 := (f43.k0 K44).oth W48 (by omega)
      refine mS 154 3 X48 (rm_ch_u1 G f51 f52 f53 f54 (by decide)) (u7 G) all0 at_151 rfl rfl rfl lr (by decide) all0 ?_
      rintro _ _ _ _ X55 ⟨xi1_56, rfl, q57⟩ K55 _ _
      have f58 := V50.k0 K55
      have f60 := (f49.wr W48).keep K55
      refine sC 155 4 xi1_56 X55 f58 (by decide) (lb rfl) (own_narC q57) at_154 rfl (by omega) (Or.inr (by omega)) (sx X55 f60 nc0) ?_
      rintro _ _ X59 ⟨_, _, W59⟩ _ V59
      have := W59.size
      have V61 := V59.as [.int xi1_12, .int xi1_23, .int xi1_34, .int xi1_45, .int xi1_56, i0, i0, i0, i0, i0, i0, i0, i0, i0, i0, i0, i0, i0, i0, i0, i0, i0] rfl
      refine oD 156 X59 at_155 rfl rfl <| oc 157 (v := 5) X59 at_156 rfl (by decide) <| oa 159 X59 at_157 rfl rfl <| oc 160 (v := 5) X59 at_159 rfl (by decide) <| oi 162 X59 at_160 rfl rfl <| oI 163 X59 at_162 rfl rfl <| oi 165 X59 at_163 rfl rfl <| oi 167 X59 at_165 rfl rfl ?_
      have f62 := (f51.keep K55).wr W59
      have f63 := (f52.k0 K55).oth W59 (by omega)
      have f64 := (f53.k0 K55).oth W59 (by omega)
      have f65 := (f54.k0 K55).oth W59 (by omega)
      refine mS 170 3 X59 (rm_ch_u1 G f62 f63 f64 f65 (by decide)) (u7 G) all0 at_167 rfl rfl rfl lr (by decide) all0 ?_
      rintro _ _ _ _ X66 ⟨xi1_67, rfl, q68⟩ K66 _ _
      have f69 := V61.k0 K66
      have f71 := (f60.wr W59).keep K66
      refine sC 171 5 xi1_67 X66 f69 (by decide) (lb rfl) (own_narC q68) at_170 rfl (by omega) (Or.inr (by omega)) (sx X66 f71 nc0) ?_
      rintro _ _ X70 ⟨_, _, W70⟩ _ V70
      have := W70.size
      have V72 := V70.as [.int xi1_12, .int xi1_23, .int xi1_34, .int xi1_45, .int xi1_56, .int xi1_67, i0, i0, i0, i0, i0, i0, i0, i0, i0, i0, i0, i0, i0, i0, i0, i0] rfl
      refine oD 172 X70 at_171 rfl rfl <| ob 174 (v := 6) X70 at_172 rfl (by decide) <| oa 176 X70 at_174 rfl rfl <| ob 178 (v := 6) X70 at_176 rfl (by decide) <| oi 180 X70 at_178 rfl rfl <| oI 181 X70 at_180 rfl rfl <| oi 183 X70 at_181 rfl rfl <| oi 185 X70 at_183 rfl rfl ?_
      have f73 := (f62.keep K66).wr W70
      have f74 := (f63.k0 K66).oth W70 (by omega)
      have f75 := (f64.k0 K66).oth W70 (by omega)
      have f76 := (f65.k0 K66).oth W70 (by omega)
      refine mS 188 3 X70 (rm_ch_u1 G f73 f74 f75 f76 (by decide)) (u7 G) all0 at_185 rfl rfl rfl lr (by decide) all0 ?_
      rintro _ _ _ _ X77 ⟨xi1_78, rfl, q79⟩ K77 _ _
      have f80 := V72.k0 K77
      have f82 := (f71.wr W70).keep K77
      refine sC 189 6 xi1_78 X77 f80 (by decide) (lb rfl) (own_narC q79) at_188 rfl (by omega) (Or.inr (by omega)) (sx X77 f82 nc0) ?_
      rintro _ _ X81 ⟨_, _, W81⟩ _ V81
      have := W81.size
      have V83 := V81.as [.int xi1_12, .int xi1_23, .int xi1_34, .int xi1_45, .int xi1_56, .int xi1_67, .int xi1_78, i0, i0, i0, i0, i0, i0, i0, i0, i0, i0, i0, i0, i0, i0, i0] rfl
      refine oD 190 X81 at_189 rfl rfl <| ob 192 (v := 7) X81 at_190 rfl (by decide) <| oa 194 X81 at_192 rfl rfl <| ob 196 (v := 7) X81 at_194 rfl (by decide) <| oi 198 X81 at_196 rfl rfl <| oI 199 X81 at_198 rfl rfl <| oi 201 X81 at_199 rfl rfl <| oi 203 X81 at_201 rfl rfl ?_
      have f84 := (f73.keep K77).wr W81
      have f85 := (f74.k0 K77).oth W81 (by omega)
      have f86 := (f75.k0 K77).oth W81 (by omega)
      have f87 := (f76.k0 K77).oth W81 (by omega)
      refine mS 206 3 X81 (rm_ch_u1 G f84 f85 f86 f87 (by decide)) (u7 G) all0 at_203 rfl rfl rfl lr (by decide) all0 ?_
      rintro _ _ _ _ X88 ⟨xi1_89, rfl, q90⟩ K88 _ _
      have f91 := V83.k0 K88
      have f93 := (f82.wr W81).keep K88
      refine sC 207 7 xi1_89 X88 f91 (by decide) (lb rfl) (own_narC q90) at_206 rfl (by omega) (Or.inr (by omega)) (sx X88 f93 nc0) ?_
      rintro _ _ X92 ⟨_, _, W92⟩ _ V92
      have := W92.size
      have V94 := V92.as [.int xi1_12, .int xi1_23, .int xi1_34, .int xi1_45, .int xi1_56, .int xi1_67, .int xi1_78, .int xi1_89, i0, i0, i0, i0, i0, i0, i0, i0, i0, i0, i0, i0, i0, i0] rfl
      refine oD 208 X92 at_207 rfl rfl <| ob 210 (v := 8) X92 at_208 rfl (by decide) <| oa 212 X92 at_210 rfl rfl <| ob 214 (v := 8) X92 at_212 rfl (by decide) <| oi 216 X92 at_214 rfl rfl <| oI 217 X92 at_216 rfl rfl <| oi 219 X92 at_217 rfl rfl <| oi 221 X92 at_219 rfl rfl ?_
      have f95 := (f84.keep K88).wr W92
      have f96 := (f85.k0 K88).oth W92 (by omega)
      have f97 := (f86.k0 K88).oth W92 (by omega)
      have f98 := (f87.k0 K88).oth W92 (by omega)
      refine mS 224 3 X92 (rm_ch_u1 G f95 f96 f97 f98 (by decide)) (u7 G) all0 at_221 rfl rfl rfl lr (by decide) all0 ?_
      rintro _ _ _ _ X99 ⟨xi1_100, rfl, q101⟩ K99 _ _
      have f102 := V94.k0 K99
      have f104 := (f93.wr W92).keep K99
      refine sC 225 8 xi1_100 X99 f102 (by decide) (lb rfl) (own_narC q101) at_224 rfl (by omega) (Or.inr (by omega)) (sx X99 f104 nc0) ?_
      rintro _ _ X103 ⟨_, _, W103⟩ _ V103
      have := W103.size
      have V105 := V103.as [.int xi1_12, .int xi1_23, .int xi1_34, .int xi1_45, .int xi1_56, .int xi1_67, .int xi1_78, .int xi1_89, .int xi1_100, i0, i0, i0, i0, i0, i0, i0, i0, i0, i0, i0, i0, i0] rfl
      refine oD 226 X103 at_225 rfl rfl <| ob 228 (v := 9) X103 at_226 rfl (by decide) <| oa 230 X103 at_228 rfl rfl <| ob 232 (v := 9) X103 at_230 rfl (by decide) <| oi 234 X103 at_232 rfl rfl <| oI 235 X103 at_234 rfl rfl <| oi 237 X103 at_235 rfl rfl <| oi 239 X103 at_237 rfl rfl ?_
      have f106 := (f95.keep K99).wr W103
      have f107 := (f96.k0 K99).oth W103 (by omega)
      have f108 := (f97.k0 K99).oth W103 (by omega)
      have f109 := (f98.k0 K99).oth W103 (by omega)
      refine mS 242 3 X103 (rm_ch_u1 G f106 f107 f108 f109 (by decide)) (u7 G) all0 at_239 rfl rfl rfl lr (by decide) all0 ?_
      rintro _ _ _ _ X110 ⟨xi1_111, rfl, q112⟩ K110 _ _
      have f113 := V105.k0 K110
      have f115 := (f104.wr W103).keep K110
      refine sC 243 9 xi1_111 X110 f113 (by decide) (lb rfl) (own_narC q112) at_242 rfl (by omega) (Or.inr (by omega)) (sx X110 f115 nc0) ?_
      rintro _ _ X114 ⟨_, _, W114⟩ _ V114
      have := W114.size
      have V116 := V114.as [.int xi1_12, .int xi1_23, .int xi1_34, .int xi1_45, .int xi1_56, .int xi1_67, .int xi1_78, .int xi1_89, .int xi1_100, .int xi1_111, i0, i0, i0, i0, i0, i0, i0, i0, i0, i0, i0, i0] rfl
      refine oD 244 X114 at_243 rfl rfl <| ob 246 (v := 10) X114 at_244 rfl (by decide) <| oa 248 X114 at_246 rfl rfl <| ob 250 (v := 10) X114 at_248 rfl (by decide) <| oi 252 X114 at_250 rfl rfl <| oI 253 X114 at_252 rfl rfl <| oi 255 X114 at_253 rfl rfl <| oi 257 X114 at_255 rfl rfl ?_
      have f117 := (f106.keep K110).wr W114
      have f118 := (f107.k0 K110).oth W114 (by omega)
      have f119 := (f108.k0 K110).oth W114 (by omega)
      have f120 := (f109.k0 K110).oth W114 (by omega)
      refine mS 260 3 X114 (rm_ch_u1 G f117 f118 f119 f120 (by decide)) (u7 G) all0 at_257 rfl rfl rfl lr (by decide) all0 ?_
      rintro _ _ _ _ X121 ⟨xi1_122, rfl, q123⟩ K121 _ _
      have f124 := V116.k0 K121
      have f126 := (f115.wr W114).keep K121
      refine sC 261 10 xi1_122 X121 f124 (by decide) (lb rfl) (own_narC q123) at_260 rfl (by omega) (Or.inr (by omega)) (sx X121 f126 nc0) ?_
      rintro _ _ X125 ⟨_, _, W125⟩ _ V125
      have := W125.size
      have V127 := V125.as [.int xi1_12, .int xi1_23, .int xi1_34, .int xi1_45, .int xi1_56, .int xi1_67, .int xi1_78, .int xi1_89, .int xi1_100, .int xi1_111, .int xi1_122, i0, i0, i0, i0, i0, i0, i0, i0, i0, i0, i0] rfl
      refine oD 262 X125 at_261 rfl rfl <| ob 264 (v := 11) X125 at_262 rfl (by decide) <| oa 266 X125 at_264 rfl rfl <| ob 268 (v := 11) X125 at_266 rfl (by decide) <| oi 270 X125 at_268 rfl rfl <| oI 271 X125 at_270 rfl rfl <| oi 273 X125 at_271 rfl rfl <| oi 275 X125 at_273 rfl rfl ?_
      have f128 := (f117.keep K121).wr W125
      have f129 := (f118.k0 K121).oth W125 (by omega)
      have f130 := (f119.k0 K121).oth W125 (by omega)
      have f131 := (f120.k0 K121).oth W125 (by omega)
      refine mS 278 3 X125 (rm_ch_u1 G f128 f129 f130 f131 (by decide)) (u7 G) all0 at_275 rfl rfl rfl lr (by decide) all0 ?_
      rintro _ _ _ _ X132 ⟨xi1_133, rfl, q134⟩ K132 _ _
      have f135 := V127.k0 K132
      have f137 := (f126.wr W125).keep K132
      refine sC 279 11 xi1_133 X132 f135 (by decide) (lb rfl) (own_narC q134) at_278 rfl (by omega) (Or.inr (by omega)) (sx X132 f137 nc0) ?_
      rintro _ _ X136 ⟨_, _, W136⟩ _ V136
      have := W136.size
      have V138 := V136.as [.int xi1_12, .int xi1_23, .int xi1_34, .int xi1_45, .int xi1_56, .int xi1_67, .int xi1_78, .int xi1_89, .int xi1_100, .int xi1_111, .int xi1_122, .int xi1_133, i0, i0, i0, i0, i0, i0, i0, i0, i0, i0] rfl
      refine oD 280 X136 at_279 rfl rfl <| ob 282 (v := 12) X136 at_280 rfl (by decide) <| oa 284 X136 at_282 rfl rfl <| ob 286 (v := 12) X136 at_284 rfl (by decide) <| oi 288 X136 at_286 rfl rfl <| oI 289 X136 at_288 rfl rfl <| oi 291 X136 at_289 rfl rfl <| oi 293 X136 at_291 rfl rfl ?_
      have f139 := (f128.keep K132).wr W136
      have f140 := (f129.k0 K132).oth W136 (by omega)
      have f141 := (f130.k0 K132).oth W136 (by omega)
      have f142 := (f131.k0 K132).oth W136 (by omega)
      refine mS 296 3 X136 (rm_ch_u1 G f139 f140 f141 f142 (by decide)) (u7 G) all0 at_293 rfl rfl rfl lr (by decide) all0 ?_
      rintro _ _ _ _ X143 ⟨xi1_144, rfl, q145⟩ K143 _ _
      have f146 := V138.k0 K143
      have f148 := (f137.wr W136).keep K143
      refine sC 297 12 xi1_144 X143 f146 (by decide) (lb rfl) (own_narC q145) at_296 rfl (by omega) (Or.inr (by omega)) (sx X143 f148 nc0) ?_
      rintro _ _ X147 ⟨_, _, W147⟩ _ V147
      have := W147.size
      have V149 := V147.as [.int xi1_12, .int xi1_23, .int xi1_34, .int xi1_45, .int xi1_56, .int xi1_67, .int xi1_78, .int xi1_89, .int xi1_100, .int xi1_111, .int xi1_122, .int xi1_133, .int xi1_144, i0, i0, i0, i0, i0, i0, i0, i0, i0] rfl
      refine oD 298 X147 at_297 rfl rfl <| ob 300 (v := 13) X147 at_298 rfl (by decide) <| oa 302 X147 at_300 rfl rfl <| ob 304 (v := 13) X147 at_302 rfl (by decide) <| oi 306 X147 at_304 rfl rfl <| oI 307 X147 at_306 rfl rfl <| oi 309 X147 at_307 rfl rfl <| oi 311 X147 at_309 rfl rfl ?_
      have f150 := (f139.keep K143).wr W147
      have f151 := (f140.k0 K143).oth W147 (by omega)
      have f152 := (f141.k0 K143).oth W147 (by omega)
      have f153 := (f142.k0 K143).oth W147 (by omega)
      refine mS 314 3 X147 (rm_ch_u1 G f150 f151 f152 f153 (by decide)) (u7 G) all0 at_311 rfl rfl rfl lr (by decide) all0 ?_
      rintro _ _ _ _ X154 ⟨xi1_155, rfl, q156⟩ K154 _ _
      have f157 := V149.k0 K154
      have f159 := (f148.wr W147).keep K154
      refine sC 315 13 xi1_155 X154 f157 (by decide) (lb rfl) (own_narC q156) at_314 rfl (by omega) (Or.inr (by omega)) (sx X154 f159 nc0) ?_
      rintro _ _ X158 ⟨_, _, W158⟩ _ V158
      have := W158.size
      have V160 := V158.as [.int xi1_12, .int xi1_23, .int xi1_34, .int xi1_45, .int xi1_56, .int xi1_67, .int xi1_78, .int xi1_89, .int xi1_100, .int xi1_111, .int xi1_122, .int xi1_133, .int xi1_144, .int xi1_155, i0, i0, i0, i0, i0, i0, i0, i0] rfl
      refine oD 316 X158 at_315 rfl rfl <| ob 318 (v := 14) X158 at_316 rfl (by decide) <| oa 320 X158 at_318 rfl rfl <| ob 322 (v := 14) X158 at_320 rfl (by decide) <| oi 324 X158 at_322 rfl rfl <| oI 325 X158 at_324 rfl rfl <| oi 327 X158 at_325 rfl rfl <| oi 329 X158 at_327 rfl rfl ?_
      have f161 := (f150.keep K154).wr W158
      have f162 := (f151.k0 K154).oth W158 (by omega)
      have f163 := (f152.k0 K154).oth W158 (by omega)
      have f164 := (f153.k0 K154).oth W158 (by omega)
      refine mS 332 3 X158 (rm_ch_u1 G f161 f162 f163 f164 (by decide)) (u7 G) all0 at_329 rfl rfl rfl lr (by decide) all0 ?_
      rintro _ _ _ _ X165 ⟨xi1_166, rfl, q167⟩ K165 _ _
      have f168 := V160.k0 K165
      have f170 := (f159.wr W158).keep K165
      refine sC 333 14 xi1_166 X165 f168 (by decide) (lb rfl) (own_narC q167) at_332 rfl (by omega) (Or.inr (by omega)) (sx X165 f170 nc0) ?_
      rintro _ _ X169 ⟨_, _, W169⟩ _ V169
      have := W169.size
      have V171 := V169.as [.int xi1_12, .int xi1_23, .int xi1_34, .int xi1_45, .int xi1_56, .int xi1_67, .int xi1_78, .int xi1_89, .int xi1_100, .int xi1_111, .int xi1_122, .int xi1_133, .int xi1_144, .int xi1_155, .int xi1_166, i0, i0, i0, i0, i0, i0, i0] rfl
      refine oD 334 X169 at_333 rfl rfl <| ob 336 (v := 15) X169 at_334 rfl (by decide) <| oa 338 X169 at_336 rfl rfl <| ob 340 (v := 15) X169 at_338 rfl (by decide) <| oi 342 X169 at_340 rfl rfl <| oI 343 X169 at_342 rfl rfl <| oi 345 X169 at_343 rfl rfl <| oi 347 X169 at_345 rfl rfl ?_
      have f172 := (f161.keep K165).wr W169
      have f173 := (f162.k0 K165).oth W169 (by omega)
      have f174 := (f163.k0 K165).oth W169 (by omega)
      have f175 := (f164.k0 K165).oth W169 (by omega)
      refine mS 350 3 X169 (rm_ch_u1 G f172 f173 f174 f175 (by decide)) (u7 G) all0 at_347 rfl rfl rfl lr (by decide) all0 ?_
      rintro _ _ _ _ X176 ⟨xi1_177, rfl, q178⟩ K176 _ _
      have f179 := V171.k0 K176
      have f181 := (f170.wr W169).keep K176
      refine sC 351 15 xi1_177 X176 f179 (by decide) (lb rfl) (own_narC q178) at_350 rfl (by omega) (Or.inr (by omega)) (sx X176 f181 nc0) ?_
      rintro _ _ X180 ⟨_, _, W180⟩ _ V180
      have := W180.size
      have V182 := V180.as [.int xi1_12, .int xi1_23, .int xi1_34, .int xi1_45, .int xi1_56, .int xi1_67, .int xi1_78, .int xi1_89, .int xi1_100, .int xi1_111, .int xi1_122, .int xi1_133, .int xi1_144, .int xi1_155, .int xi1_166, .int xi1_177, i0, i0, i0, i0, i0, i0] rfl
      refine oD 352 X180 at_351 rfl rfl <| ob 354 (v := 16) X180 at_352 rfl (by decide) <| oa 356 X180 at_354 rfl rfl <| ob 358 (v := 16) X180 at_356 rfl (by decide) <| oi 360 X180 at_358 rfl rfl <| oI 361 X180 at_360 rfl rfl <| oi 363 X180 at_361 rfl rfl <| oi 365 X180 at_363 rfl rfl ?_
      have f183 := (f172.keep K176).wr W180
      have f184 := (f173.k0 K176).oth W180 (by omega)
      have f185 := (f174.k0 K176).oth W180 (by omega)
      have f186 := (f175.k0 K176).oth W180 (by omega)
      refine mS 368 3 X180 (rm_ch_u1 G f183 f184 f185 f186 (by decide)) (u7 G) all0 at_365 rfl rfl rfl lr (by decide) all0 ?_
      rintro _ _ _ _ X187 ⟨xi1_188, rfl, q189⟩ K187 _ _
      have f190 := V182.k0 K187
      have f192 := (f181.wr W180).keep K187
      refine sC 369 16 xi1_188 X187 f190 (by decide) (lb rfl) (own_narC q189) at_368 rfl (by omega) (Or.inr (by omega)) (sx X187 f192 nc0) ?_
      rintro _ _ X191 ⟨_, _, W191⟩ _ V191
      have := W191.size
      have V193 := V191.as [.int xi1_12, .int xi1_23, .int xi1_34, .int xi1_45, .int xi1_56, .int xi1_67, .int xi1_78, .int xi1_89, .int xi1_100, .int xi1_111, .int xi1_122, .int xi1_133, .int xi1_144, .int xi1_155, .int xi1_166, .int xi1_177, .int xi1_188, i0, i0, i0, i0, i0] rfl
      refine oD 370 X191 at_369 rfl rfl <| ob 372 (v := 17) X191 at_370 rfl (by decide) <| oa 374 X191 at_372 rfl rfl <| ob 376 (v := 17) X191 at_374 rfl (by decide) <| oi 378 X191 at_376 rfl rfl <| oI 379 X191 at_378 rfl rfl <| oi 381 X191 at_379 rfl rfl <| oi 383 X191 at_381 rfl rfl ?_
      have f194 := (f183.keep K187).wr W191
      have f195 := (f184.k0 K187).oth W191 (by omega)
      have f196 := (f185.k0 K187).oth W191 (by omega)
      have f197 := (f186.k0 K187).oth W191 (by omega)
      refine mS 386 3 X191 (rm_ch_u1 G f194 f195 f196 f197 (by decide)) (u7 G) all0 at_383 rfl rfl rfl lr (by decide) all0 ?_
      rintro _ _ _ _ X198 ⟨xi1_199, rfl, q200⟩ K198 _ _
      have f201 := V193.k0 K198
      have f203 := (f192.wr W191).keep K198
      refine sC 387 17 xi1_199 X198 f201 (by decide) (lb rfl) (own_narC q200) at_386 rfl (by omega) (Or.inr (by omega)) (sx X198 f203 nc0) ?_
      rintro _ _ X202 ⟨_, _, W202⟩ _ V202
      have := W202.size
      have V204 := V202.as [.int xi1_12, .int xi1_23, .int xi1_34, .int xi1_45, .int xi1_56, .int xi1_67, .int xi1_78, .int xi1_89, .int xi1_100, .int xi1_111, .int xi1_122, .int xi1_133, .int xi1_144, .int xi1_155, .int xi1_166, .int xi1_177, .int xi1_188, .int xi1_199, i0, i0, i0, i0] rfl
      refine oD 388 X202 at_387 rfl rfl <| ob 390 (v := 18) X202 at_388 rfl (by decide) <| oa 392 X202 at_390 rfl rfl <| ob 394 (v := 18) X202 at_392 rfl (by decide) <| oi 396 X202 at_394 rfl rfl <| oI 397 X202 at_396 rfl rfl <| oi 399 X202 at_397 rfl rfl <| oi 401 X202 at_399 rfl rfl ?_
      have f205 := (f194.keep K198).wr W202
      have f206 := (f195.k0 K198).oth W202 (by omega)
      have f207 := (f196.k0 K198).oth W202 (by omega)
      have f208 := (f197.k0 K198).oth W202 (by omega)
      refine mS 404 3 X202 (rm_ch_u1 G f205 f206 f207 f208 (by decide)) (u7 G) all0 at_401 rfl rfl rfl lr (by decide) all0 ?_
      rintro _ _ _ _ X209 ⟨xi1_210, rfl, q211⟩ K209 _ _
      have f212 := V204.k0 K209
      have f214 := (f203.wr W202).keep K209
      refine sC 405 18 xi1_210 X209 f212 (by decide) (lb rfl) (own_narC q211) at_404 rfl (by omega) (Or.inr (by omega)) (sx X209 f214 nc0) ?_
      rintro _ _ X213 ⟨_, _, W213⟩ _ V213
      have := W213.size
      have V215 := V213.as [.int xi1_12, .int xi1_23, .int xi1_34, .int xi1_45, .int xi1_56, .int xi1_67, .int xi1_78, .int xi1_89, .int xi1_100, .int xi1_111, .int xi1_122, .int xi1_133, .int xi1_144, .int xi1_155, .int xi1_166, .int xi1_177, .int xi1_188, .int xi1_199, .int xi1_210, i0, i0, i0] rfl
      refine oD 406 X213 at_405 rfl rfl <| ob 408 (v := 19) X213 at_406 rfl (by decide) <| oa 410 X213 at_408 rfl rfl <| ob 412 (v := 19) X213 at_410 rfl (by decide) <| oi 414 X213 at_412 rfl rfl <| oI 415 X213 at_414 rfl rfl <| oi 417 X213 at_415 rfl rfl <| oi 419 X213 at_417 rfl rfl ?_
      have f216 := (f205.keep K209).wr W213
      have f217 := (f206.k0 K209).oth W213 (by omega)
      have f218 := (f207.k0 K209).oth W213 (by omega)
      have f219 := (f208.k0 K209).oth W213 (by omega)
      refine mS 422 3 X213 (rm_ch_u1 G f216 f217 f218 f219 (by decide)) (u7 G) all0 at_419 rfl rfl rfl lr (by decide) all0 ?_
      rintro _ _ _ _ X220 ⟨xi1_221, rfl, q222⟩ K220 _ _
      have f223 := V215.k0 K220
      have f225 := (f214.wr W213).keep K220
      refine sC 423 19 xi1_221 X220 f223 (by decide) (lb rfl) (own_narC q222) at_422 rfl (by omega) (Or.inr (by omega)) (sx X220 f225 nc0) ?_
      rintro _ _ X224 ⟨_, _, W224⟩ _ V224
      have := W224.size
      have V226 := V224.as [.int xi1_12, .int xi1_23, .int xi1_34, .int xi1_45, .int xi1_56, .int xi1_67, .int xi1_78, .int xi1_89, .int xi1_100, .int xi1_111, .int xi1_122, .int xi1_133, .int xi1_144, .int xi1_155, .int xi1_166, .int xi1_177, .int xi1_188, .int xi1_199, .int xi1_210, .int xi1_221, i0, i0] rfl
      refine oD 424 X224 at_423 rfl rfl <| ob 426 (v := 20) X224 at_424 rfl (by decide) <| oa 428 X224 at_426 rfl rfl <| ob 430 (v := 20) X224 at_428 rfl (by decide) <| oi 432 X224 at_430 rfl rfl <| oI 433 X224 at_432 rfl rfl <| oi 435 X224 at_433 rfl rfl <| oi 437 X224 at_435 rfl rfl ?_
      have f227 := (f216.keep K220).wr W224
      have f228 := (f217.k0 K220).oth W224 (by omega)
      have f229 := (f218.k0 K220).oth W224 (by omega)
      have f230 := (f219.k0 K220).oth W224 (by omega)
      refine mS 440 3 X224 (rm_ch_u1 G f227 f228 f229 f230 (by decide)) (u7 G) all0 at_437 rfl rfl rfl lr (by decide) all0 ?_
      rintro _ _ _ _ X231 ⟨xi1_232, rfl, q233⟩ K231 _ _
      have f234 := V226.k0 K231
      have f236 := (f225.wr W224).keep K231
      refine sC 441 20 xi1_232 X231 f234 (by decide) (lb rfl) (own_narC q233) at_440 rfl (by omega) (Or.inr (by omega)) (sx X231 f236 nc0) ?_
      rintro _ _ X235 ⟨_, _, W235⟩ _ V235
      have := W235.size
      have V237 := V235.as [.int xi1_12, .int xi1_23, .int xi1_34, .int xi1_45, .int xi1_56, .int xi1_67, .int xi1_78, .int xi1_89, .int xi1_100, .int xi1_111, .int xi1_122, .int xi1_133, .int xi1_144, .int xi1_155, .int xi1_166, .int xi1_177, .int xi1_188, .int xi1_199, .int xi1_210, .int xi1_221, .int xi1_232, i0] rfl
      refine oD 442 X235 at_441 rfl rfl <| ob 444 (v := 21) X235 at_442 rfl (by decide) <| oa 446 X235 at_444 rfl rfl <| ob 448 (v := 21) X235 at_446 rfl (by decide) <| oi 450 X235 at_448 rfl rfl <| oI 451 X235 at_450 rfl rfl <| oi 453 X235 at_451 rfl rfl <| oi 455 X235 at_453 rfl rfl ?_
      have f238 := (f227.keep K231).wr W235
      have f239 := (f228.k0 K231).oth W235 (by omega)
      have f240 := (f229.k0 K231).oth W235 (by omega)
      have f241 := (f230.k0 K231).oth W235 (by omega)
      refine mS 458 3 X235 (rm_ch_u1 G f238 f239 f240 f241 (by decide)) (u7 G) all0 at_455 rfl rfl rfl lr (by decide) all0 ?_
      rintro _ _ _ _ X242 ⟨xi1_243, rfl, q244⟩ K242 _ _
      have f245 := V237.k0 K242
      have f247 := (f236.wr W235).keep K242
      refine sC 459 21 xi1_243 X242 f245 (by decide) (lb rfl) (own_narC q244) at_458 rfl (by omega) (Or.inr (by omega)) (sx X242 f247 nc0) ?_
      rintro _ _ X246 ⟨_, _, W246⟩ _ V246
      have := W246.size
      have V248 := V246.as [.int xi1_12, .int xi1_23, .int xi1_34, .int xi1_45, .int xi1_56, .int xi1_67, .int xi1_78, .int xi1_89, .int xi1_100, .int xi1_111, .int xi1_122, .int xi1_133, .int xi1_144, .int xi1_155, .int xi1_166, .int xi1_177, .int xi1_188, .int xi1_199, .int xi1_210, .int xi1_221, .int xi1_232, .int xi1_243] rfl
      refine oU 461 (l' := #[ii p1, ii p2, ii p3, ii p4, ii p5, ii 0, rr a2, ii mm3, ii po4, rr b5, uu, uu, uu]) X246 at_459 rfl rfl rfl <| oa 463 X246 at_461 rfl rfl <| oI 464 X246 at_463 rfl rfl <| ob 466 (v := 7) X246 at_464 rfl (by decide) ?_
      rcases own_and7 p2 with hk249 | hk249 | hk249 | hk249 | hk249 | hk249 | hk249 | hk249
      · refine o_iand 467 (v := 0) X246 at_466 rfl hk249 ?_
        have f250 := f247.wr W246
        refine mS 470 0 X246 (rm_au11 G f250 (by decide)) (u8 G) all0 at_467 rfl rfl rfl lr (by decide) all0 ?_
        rintro _ _ _ _ X251 ⟨xa1_252, _, _, rfl, q255, q256, q257, q258, _⟩ _ _ _
        refine oU 472 (l' := #[ii p1, ii p2, ii p3, ii p4, ii p5, ii 0, rr a2, ii mm3, ii po4, rr b5, rr xa1_252, uu, uu]) X251 at_470 rfl rfl rfl ?_
        have f261 := (F_su1 G).ext X251.old.2
        have f262 := (sg0 G).ext X251.old.2
        have := own_neL f261 f262 q257 q258 (by decide)
        have f264 := (F_su2 G).ext X251.old.2
        have f265 := (sg1 G).ext X251.old.2
        have := own_neL f264 f265 q257 q258 (by decide)
        have f267 := (F_su3 G).ext X251.old.2
        have f268 := (sg2 G).ext X251.old.2
        have := own_neL f267 f268 q257 q258 (by decide)
        have f270 := (F_su4 G).ext X251.old.2
        have f271 := (sg3 G).ext X251.old.2
        have := own_neL f270 f271 q257 q258 (by decide)
        refine oa 474 X251 at_472 rfl rfl <| mS 477 0 X251 (rm_au14 G q255 q256 q257 q258 (by decide)) (u11 G) all0 at_474 rfl rfl rfl lr (by decide) all0 ?_
        rintro _ _ _ _ X272 rfl K272 _ _
        refine oU 479 (l' := #[ii p1, ii p2, ii p3, ii p4, ii p5, ii 0, rr a2, ii mm3, ii po4, rr b5, rr xa1_252, .val .null, uu]) X272 at_477 rfl rfl rfl <| oa 481 X272 at_479 rfl rfl ?_
        have f273 := q255.keep K272
        have f274 := q256.k0 K272
        have f275 := q257.k0 K272
        have f276 := q258.k0 K272
        refine mS 484 0 X272 (rm_au17 G f273 f274 f275 f276 (by decide) (by decide) (by decide) (by decide) (by omega)) (u15 G) all0 at_481 rfl rfl rfl lr (by decide) all0 ?_
        rintro _ _ _ _ X277 rfl _ _ _
        refine o_aconstNull 485 X277 at_484 rfl ?_
        have f278 := (sg9 G).ext X277.old.2
        refine mV 488 0 X277 f278 (rm_au18 G ) (u16 G) all0 at_485 rfl rfl rfl lr (by decide) all0 ?_
        rintro _ _ _ _ X279 rfl _ _ _
        refine o_castNull 491 X279 at_488 rfl <| oU 493 (l' := #[ii p1, ii p2, ii p3, ii p4, ii p5, ii 0, rr a2, ii mm3, ii po4, rr b5, rr xa1_252, .val .null, .val .null]) X279 at_491 rfl rfl rfl <| o_aload 495 X279 at_493 rfl rfl rfl <| o_aload 497 X279 at_495 rfl rfl rfl <| o_acmp 500 (same := true) X279 at_497 rfl rfl (decide_eq_true rfl) (by decide) (by decide) <| oc 501 (v := 1) X279 at_500 rfl (by decide) <| og 505 X279 at_501 (by decide) ?_
        exact o_nret (y := (1 : Int32)) (t := .boolean) X279 at_505 rfl (by decide) (by simp) (by decide) (by decide) (fun _ CC => rfl)
      · refine o_iand 467 (v := 1) X246 at_466 rfl hk249 <| mS 470 0 X246 (rm_au24 G V248 q13 q24 q35 q46 q57 q68 q79 q90 q101 q112 q123 q134 q145 q156 q167 q178 q189 q200 q211 q222 q233 q244 (by decide) (by decide)) (u8 G) all0 at_467 rfl rfl rfl lr (by decide) all0 ?_
        rintro _ _ _ _ X280 ⟨xa1_281, _, _, rfl, q284, q285, q286, q287, q288, q289, q290, _⟩ _ _ _
        refine oU 472 (l' := #[ii p1, ii p2, ii p3, ii p4, ii p5, ii 0, rr a2, ii mm3, ii po4, rr b5, rr xa1_281, uu, uu]) X280 at_470 rfl rfl rfl <| oa 474 X280 at_472 rfl rfl <| mS 477 0 X280 (rm_au25 G q284 q285 q286 q288 q289 (by decide) (by decide) (by decide) (by decide)) (u11 G) (sS (by omega) q287 (sS (by omega) q290 all0)) at_474 rfl rfl rfl lr (by decide) all0 ?_
        rintro _ _ _ _ X292 rfl K292 _ _
        refine oU 479 (l' := #[ii p1, ii p2, ii p3, ii p4, ii p5, ii 0, rr a2, ii mm3, ii po4, rr b5, rr xa1_281, .val .null, uu]) X292 at_477 rfl rfl rfl <| oa 481 X292 at_479 rfl rfl ?_
        have f293 := q284.keep K292
        have f294 := q285.k0 K292
        have f295 := q286.k0 K292
        have f296 := q288.k0 K292
        refine mS 484 0 X292 (rm_au17 G f293 f294 f295 f296 (by decide) (by decide) (by decide) (by decide) (by omega)) (u15 G) all0 at_481 rfl rfl rfl lr (by decide) all0 ?_
        rintro _ _ _ _ X297 rfl _ _ _
        refine o_aconstNull 485 X297 at_484 rfl ?_
        have f298 := (sg9 G).ext X297.old.2
        refine mV 488 0 X297 f298 (rm_au18 G ) (u16 G) all0 at_485 rfl rfl rfl lr (by decide) all0 ?_
        rintro _ _ _ _ X299 rfl _ _ _
        refine o_castNull 491 X299 at_488 rfl <| oU 493 (l' := #[ii p1, ii p2, ii p3, ii p4, ii p5, ii 0, rr a2, ii mm3, ii po4, rr b5, rr xa1_281, .val .null, .val .null]) X299 at_491 rfl rfl rfl <| o_aload 495 X299 at_493 rfl rfl rfl <| o_aload 497 X299 at_495 rfl rfl rfl <| o_acmp 500 (same := true) X299 at_497 rfl rfl (decide_eq_true rfl) (by decide) (by decide) <| oc 501 (v := 1) X299 at_500 rfl (by decide) <| og 505 X299 at_501 (by decide) ?_
        exact o_nret (y := (1 : Int32)) (t := .boolean) X299 at_505 rfl (by decide) (by simp) (by decide) (by decide) (fun _ CC => rfl)
      · refine o_iand 467 (v := 2) X246 at_466 rfl hk249 <| mS 470 0 X246 (rm_au31 G V248 q13 q24 q35 q46 q57 q68 q79 q90 q101 q112 q123 q134 q145 q156 q167 q178 q189 q200 q211 q222 q233 q244 (by decide) (by decide) (by decide)) (u8 G) all0 at_467 rfl rfl rfl lr (by decide) all0 ?_
        rintro _ _ _ _ X300 ⟨xa1_301, _, _, rfl, q304, q305, q306, q307, q308, q309, q310, _⟩ _ _ _
        refine oU 472 (l' := #[ii p1, ii p2, ii p3, ii p4, ii p5, ii 0, rr a2, ii mm3, ii po4, rr b5, rr xa1_301, uu, uu]) X300 at_470 rfl rfl rfl ?_
        by_cases hc312 : (oEq [(xi1_12.toInt8.toInt32), (xi1_23.toInt8.toInt32), (xi1_34.toInt8.toInt32), (xi1_45.toInt8.toInt32)] [117, 115, 101, 114]) = (0 : Int32)
        · by_cases hc313 : (oEq [(xi1_12.toInt8.toInt32), (xi1_23.toInt8.toInt32), (xi1_34.toInt8.toInt32), (xi1_45.toInt8.toInt32)] [114, 111, 108, 101]) = (0 : Int32)
          · refine oa 474 X300 at_472 rfl rfl <| mS 477 0 X300 (rm_au34 G q304 q305 q306 q308 q309 hc313 hc312) (u11 G) (sS (by omega) q307 (sS (by omega) q310 all0)) at_474 rfl rfl rfl lr (by decide) all0 ?_
            rintro _ _ _ _ X314 rfl K314 _ _
            refine oU 479 (l' := #[ii p1, ii p2, ii p3, ii p4, ii p5, ii 0, rr a2, ii mm3, ii po4, rr b5, rr xa1_301, .val .null, uu]) X314 at_477 rfl rfl rfl <| oa 481 X314 at_479 rfl rfl ?_
            have f315 := q304.keep K314
            have f316 := q305.k0 K314
            have f317 := q306.k0 K314
            have f318 := q308.k0 K314
            refine mS 484 0 X314 (rm_au37 G f315 f316 f317 f318 hc313 hc312 (by omega)) (u15 G) all0 at_481 rfl rfl rfl lr (by decide) all0 ?_
            rintro _ _ _ _ X319 rfl _ _ _
            refine o_aconstNull 485 X319 at_484 rfl ?_
            have f320 := (sg9 G).ext X319.old.2
            refine mV 488 0 X319 f320 (rm_au18 G ) (u16 G) all0 at_485 rfl rfl rfl lr (by decide) all0 ?_
            rintro _ _ _ _ X321 rfl _ _ _
            refine o_castNull 491 X321 at_488 rfl <| oU 493 (l' := #[ii p1, ii p2, ii p3, ii p4, ii p5, ii 0, rr a2, ii mm3, ii po4, rr b5, rr xa1_301, .val .null, .val .null]) X321 at_491 rfl rfl rfl <| o_aload 495 X321 at_493 rfl rfl rfl <| o_aload 497 X321 at_495 rfl rfl rfl <| o_acmp 500 (same := true) X321 at_497 rfl rfl (decide_eq_true rfl) (by decide) (by decide) <| oc 501 (v := 1) X321 at_500 rfl (by decide) <| og 505 X321 at_501 (by decide) ?_
            exact o_nret (y := (1 : Int32)) (t := .boolean) X321 at_505 rfl (by decide) (by simp) (by decide) (by decide) (fun _ CC => rfl)
          · refine oa 474 X300 at_472 rfl rfl <| mS 477 0 X300 (rm_au39 G q304 q305 q306 q308 q309 hc313 hc312) (u11 G) (sS (by omega) q307 (sS (by omega) q310 all0)) at_474 rfl rfl rfl lr (by decide) all0 ?_
            rintro _ _ _ _ X322 rfl K322 _ _
            refine oU 479 (l' := #[ii p1, ii p2, ii p3, ii p4, ii p5, ii 0, rr a2, ii mm3, ii po4, rr b5, rr xa1_301, rr ku2, uu]) X322 at_477 rfl rfl rfl <| oa 481 X322 at_479 rfl rfl ?_
            have f323 := q304.keep K322
            have f324 := q305.k0 K322
            have f325 := q306.k0 K322
            have f326 := q308.k0 K322
            refine mS 484 0 X322 (rm_au44 G f323 f324 f325 f326 hc313 hc312 (by omega)) (u15 G) all0 at_481 rfl rfl rfl lr (by decide) all0 ?_
            rintro _ _ _ _ X327 ⟨_, rfl, q329, q330, _⟩ _ _ _
            refine o_aconstNull 485 X327 at_484 rfl <| mV 488 0 X327 q329 (rm_au45 G q330) (u16 G) all0 at_485 rfl rfl rfl lr (by decide) all0 ?_
            rintro _ _ _ _ X332 rfl _ _ _
            have f333 := (sg6 G).ext X332.old.2
            refine o_castY 491 X332 (w141 G) (Ins.self f333) at_488 rfl ?_
            intro _ X335
            refine oU 493 (l' := #[ii p1, ii p2, ii p3, ii p4, ii p5, ii 0, rr a2, ii mm3, ii po4, rr b5, rr xa1_301, rr ku2, rr ku2]) X335 at_491 rfl rfl rfl <| oa 495 X335 at_493 rfl rfl <| oa 497 X335 at_495 rfl rfl <| o_acmp 500 (same := true) X335 at_497 rfl rfl (decide_eq_true rfl) (by decide) (by decide) <| oc 501 (v := 1) X335 at_500 rfl (by decide) <| og 505 X335 at_501 (by decide) ?_
            exact o_nret (y := (1 : Int32)) (t := .boolean) X335 at_505 rfl (by decide) (by simp) (by decide) (by decide) (fun _ CC => rfl)
        · refine oa 474 X300 at_472 rfl rfl <| mS 477 0 X300 (rm_au47 G q304 q305 q306 q308 q309 hc312) (u11 G) (sS (by omega) q307 (sS (by omega) q310 all0)) at_474 rfl rfl rfl lr (by decide) all0 ?_
          rintro _ _ _ _ X336 rfl K336 _ _
          refine oU 479 (l' := #[ii p1, ii p2, ii p3, ii p4, ii p5, ii 0, rr a2, ii mm3, ii po4, rr b5, rr xa1_301, rr ku1, uu]) X336 at_477 rfl rfl rfl <| oa 481 X336 at_479 rfl rfl ?_
          have f337 := q304.keep K336
          have f338 := q305.k0 K336
          have f339 := q306.k0 K336
          have f340 := q308.k0 K336
          refine mS 484 0 X336 (rm_au52 G f337 f338 f339 f340 hc312 (by omega)) (u15 G) all0 at_481 rfl rfl rfl lr (by decide) all0 ?_
          rintro _ _ _ _ X341 ⟨_, rfl, q343, q344, _⟩ _ _ _
          refine o_aconstNull 485 X341 at_484 rfl <| mV 488 0 X341 q343 (rm_au53 G q344) (u16 G) all0 at_485 rfl rfl rfl lr (by decide) all0 ?_
          rintro _ _ _ _ X346 rfl _ _ _
          have f347 := (sg5 G).ext X346.old.2
          refine o_castY 491 X346 (w141 G) (Ins.self f347) at_488 rfl ?_
          intro _ X349
          refine oU 493 (l' := #[ii p1, ii p2, ii p3, ii p4, ii p5, ii 0, rr a2, ii mm3, ii po4, rr b5, rr xa1_301, rr ku1, rr ku1]) X349 at_491 rfl rfl rfl <| oa 495 X349 at_493 rfl rfl <| oa 497 X349 at_495 rfl rfl <| o_acmp 500 (same := true) X349 at_497 rfl rfl (decide_eq_true rfl) (by decide) (by decide) <| oc 501 (v := 1) X349 at_500 rfl (by decide) <| og 505 X349 at_501 (by decide) ?_
          exact o_nret (y := (1 : Int32)) (t := .boolean) X349 at_505 rfl (by decide) (by simp) (by decide) (by decide) (fun _ CC => rfl)
      · refine o_iand 467 (v := 3) X246 at_466 rfl hk249 <| mS 470 0 X246 (rm_au59 G V248 q13 q24 q35 q46 q57 q68 q79 q90 q101 q112 q123 q134 q145 q156 q167 q178 q189 q200 q211 q222 q233 q244 (by decide) (by decide) (by decide) (by decide)) (u8 G) all0 at_467 rfl rfl rfl lr (by decide) all0 ?_
        rintro _ _ _ _ X350 ⟨xa1_351, _, _, rfl, q354, q355, q356, q357, q358, q359, q360, _⟩ _ _ _
        refine oU 472 (l' := #[ii p1, ii p2, ii p3, ii p4, ii p5, ii 0, rr a2, ii mm3, ii po4, rr b5, rr xa1_351, uu, uu]) X350 at_470 rfl rfl rfl ?_
        by_cases hc362 : (oEq [(xi1_12.toInt8.toInt32), (xi1_23.toInt8.toInt32), (xi1_34.toInt8.toInt32), (xi1_45.toInt8.toInt32), (xi1_56.toInt8.toInt32)] [103, 114, 111, 117, 112]) = (0 : Int32)
        · refine oa 474 X350 at_472 rfl rfl <| mS 477 0 X350 (rm_au61 G q354 q355 q356 q358 q359 hc362) (u11 G) (sS (by omega) q357 (sS (by omega) q360 all0)) at_474 rfl rfl rfl lr (by decide) all0 ?_
          rintro _ _ _ _ X363 rfl K363 _ _
          refine oU 479 (l' := #[ii p1, ii p2, ii p3, ii p4, ii p5, ii 0, rr a2, ii mm3, ii po4, rr b5, rr xa1_351, .val .null, uu]) X363 at_477 rfl rfl rfl <| oa 481 X363 at_479 rfl rfl ?_
          have f364 := q354.keep K363
          have f365 := q355.k0 K363
          have f366 := q356.k0 K363
          have f367 := q358.k0 K363
          refine mS 484 0 X363 (rm_au63 G f364 f365 f366 f367 hc362 (by omega)) (u15 G) all0 at_481 rfl rfl rfl lr (by decide) all0 ?_
          rintro _ _ _ _ X368 rfl _ _ _
          refine o_aconstNull 485 X368 at_484 rfl ?_
          have f369 := (sg9 G).ext X368.old.2
          refine mV 488 0 X368 f369 (rm_au18 G ) (u16 G) all0 at_485 rfl rfl rfl lr (by decide) all0 ?_
          rintro _ _ _ _ X370 rfl _ _ _
          refine o_castNull 491 X370 at_488 rfl <| oU 493 (l' := #[ii p1, ii p2, ii p3, ii p4, ii p5, ii 0, rr a2, ii mm3, ii po4, rr b5, rr xa1_351, .val .null, .val .null]) X370 at_491 rfl rfl rfl <| o_aload 495 X370 at_493 rfl rfl rfl <| o_aload 497 X370 at_495 rfl rfl rfl <| o_acmp 500 (same := true) X370 at_497 rfl rfl (decide_eq_true rfl) (by decide) (by decide) <| oc 501 (v := 1) X370 at_500 rfl (by decide) <| og 505 X370 at_501 (by decide) ?_
          exact o_nret (y := (1 : Int32)) (t := .boolean) X370 at_505 rfl (by decide) (by simp) (by decide) (by decide) (fun _ CC => rfl)
        · refine oa 474 X350 at_472 rfl rfl <| mS 477 0 X350 (rm_au65 G q354 q355 q356 q358 q359 hc362) (u11 G) (sS (by omega) q357 (sS (by omega) q360 all0)) at_474 rfl rfl rfl lr (by decide) all0 ?_
          rintro _ _ _ _ X371 rfl K371 _ _
          refine oU 479 (l' := #[ii p1, ii p2, ii p3, ii p4, ii p5, ii 0, rr a2, ii mm3, ii po4, rr b5, rr xa1_351, rr ku4, uu]) X371 at_477 rfl rfl rfl <| oa 481 X371 at_479 rfl rfl ?_
          have f372 := q354.keep K371
          have f373 := q355.k0 K371
          have f374 := q356.k0 K371
          have f375 := q358.k0 K371
          refine mS 484 0 X371 (rm_au70 G f372 f373 f374 f375 hc362 (by omega)) (u15 G) all0 at_481 rfl rfl rfl lr (by decide) all0 ?_
          rintro _ _ _ _ X376 ⟨_, rfl, q378, q379, _⟩ _ _ _
          refine o_aconstNull 485 X376 at_484 rfl <| mV 488 0 X376 q378 (rm_au71 G q379) (u16 G) all0 at_485 rfl rfl rfl lr (by decide) all0 ?_
          rintro _ _ _ _ X381 rfl _ _ _
          have f382 := (sg8 G).ext X381.old.2
          refine o_castY 491 X381 (w141 G) (Ins.self f382) at_488 rfl ?_
          intro _ X384
          refine oU 493 (l' := #[ii p1, ii p2, ii p3, ii p4, ii p5, ii 0, rr a2, ii mm3, ii po4, rr b5, rr xa1_351, rr ku4, rr ku4]) X384 at_491 rfl rfl rfl <| oa 495 X384 at_493 rfl rfl <| oa 497 X384 at_495 rfl rfl <| o_acmp 500 (same := true) X384 at_497 rfl rfl (decide_eq_true rfl) (by decide) (by decide) <| oc 501 (v := 1) X384 at_500 rfl (by decide) <| og 505 X384 at_501 (by decide) ?_
          exact o_nret (y := (1 : Int32)) (t := .boolean) X384 at_505 rfl (by decide) (by simp) (by decide) (by decide) (fun _ CC => rfl)
      · refine o_iand 467 (v := 4) X246 at_466 rfl hk249 <| mS 470 0 X246 (rm_au77 G V248 q13 q24 q35 q46 q57 q68 q79 q90 q101 q112 q123 q134 q145 q156 q167 q178 q189 q200 q211 q222 q233 q244 (by decide) (by decide) (by decide) (by decide) (by decide)) (u8 G) all0 at_467 rfl rfl rfl lr (by decide) all0 ?_
        rintro _ _ _ _ X385 ⟨xa1_386, _, _, rfl, q389, q390, q391, q392, q393, q394, q395, _⟩ _ _ _
        refine oU 472 (l' := #[ii p1, ii p2, ii p3, ii p4, ii p5, ii 0, rr a2, ii mm3, ii po4, rr b5, rr xa1_386, uu, uu]) X385 at_470 rfl rfl rfl <| oa 474 X385 at_472 rfl rfl <| mS 477 0 X385 (rm_au25 G q389 q390 q391 q393 q394 (by decide) (by decide) (by decide) (by decide)) (u11 G) (sS (by omega) q392 (sS (by omega) q395 all0)) at_474 rfl rfl rfl lr (by decide) all0 ?_
        rintro _ _ _ _ X397 rfl K397 _ _
        refine oU 479 (l' := #[ii p1, ii p2, ii p3, ii p4, ii p5, ii 0, rr a2, ii mm3, ii po4, rr b5, rr xa1_386, .val .null, uu]) X397 at_477 rfl rfl rfl <| oa 481 X397 at_479 rfl rfl ?_
        have f398 := q389.keep K397
        have f399 := q390.k0 K397
        have f400 := q391.k0 K397
        have f401 := q393.k0 K397
        refine mS 484 0 X397 (rm_au17 G f398 f399 f400 f401 (by decide) (by decide) (by decide) (by decide) (by omega)) (u15 G) all0 at_481 rfl rfl rfl lr (by decide) all0 ?_
        rintro _ _ _ _ X402 rfl _ _ _
        refine o_aconstNull 485 X402 at_484 rfl ?_
        have f403 := (sg9 G).ext X402.old.2
        refine mV 488 0 X402 f403 (rm_au18 G ) (u16 G) all0 at_485 rfl rfl rfl lr (by decide) all0 ?_
        rintro _ _ _ _ X404 rfl _ _ _
        refine o_castNull 491 X404 at_488 rfl <| oU 493 (l' := #[ii p1, ii p2, ii p3, ii p4, ii p5, ii 0, rr a2, ii mm3, ii po4, rr b5, rr xa1_386, .val .null, .val .null]) X404 at_491 rfl rfl rfl <| o_aload 495 X404 at_493 rfl rfl rfl <| o_aload 497 X404 at_495 rfl rfl rfl <| o_acmp 500 (same := true) X404 at_497 rfl rfl (decide_eq_true rfl) (by decide) (by decide) <| oc 501 (v := 1) X404 at_500 rfl (by decide) <| og 505 X404 at_501 (by decide) ?_
        exact o_nret (y := (1 : Int32)) (t := .boolean) X404 at_505 rfl (by decide) (by simp) (by decide) (by decide) (fun _ CC => rfl)
      · refine o_iand 467 (v := 5) X246 at_466 rfl hk249 <| mS 470 0 X246 (rm_au83 G V248 q13 q24 q35 q46 q57 q68 q79 q90 q101 q112 q123 q134 q145 q156 q167 q178 q189 q200 q211 q222 q233 q244 (by decide) (by decide) (by decide) (by decide) (by decide) (by decide)) (u8 G) all0 at_467 rfl rfl rfl lr (by decide) all0 ?_
        rintro _ _ _ _ X405 ⟨xa1_406, _, _, rfl, q409, q410, q411, q412, q413, q414, q415, _⟩ _ _ _
        refine oU 472 (l' := #[ii p1, ii p2, ii p3, ii p4, ii p5, ii 0, rr a2, ii mm3, ii po4, rr b5, rr xa1_406, uu, uu]) X405 at_470 rfl rfl rfl <| oa 474 X405 at_472 rfl rfl <| mS 477 0 X405 (rm_au25 G q409 q410 q411 q413 q414 (by decide) (by decide) (by decide) (by decide)) (u11 G) (sS (by omega) q412 (sS (by omega) q415 all0)) at_474 rfl rfl rfl lr (by decide) all0 ?_
        rintro _ _ _ _ X417 rfl K417 _ _
        refine oU 479 (l' := #[ii p1, ii p2, ii p3, ii p4, ii p5, ii 0, rr a2, ii mm3, ii po4, rr b5, rr xa1_406, .val .null, uu]) X417 at_477 rfl rfl rfl <| oa 481 X417 at_479 rfl rfl ?_
        have f418 := q409.keep K417
        have f419 := q410.k0 K417
        have f420 := q411.k0 K417
        have f421 := q413.k0 K417
        refine mS 484 0 X417 (rm_au17 G f418 f419 f420 f421 (by decide) (by decide) (by decide) (by decide) (by omega)) (u15 G) all0 at_481 rfl rfl rfl lr (by decide) all0 ?_
        rintro _ _ _ _ X422 rfl _ _ _
        refine o_aconstNull 485 X422 at_484 rfl ?_
        have f423 := (sg9 G).ext X422.old.2
        refine mV 488 0 X422 f423 (rm_au18 G ) (u16 G) all0 at_485 rfl rfl rfl lr (by decide) all0 ?_
        rintro _ _ _ _ X424 rfl _ _ _
        refine o_castNull 491 X424 at_488 rfl <| oU 493 (l' := #[ii p1, ii p2, ii p3, ii p4, ii p5, ii 0, rr a2, ii mm3, ii po4, rr b5, rr xa1_406, .val .null, .val .null]) X424 at_491 rfl rfl rfl <| o_aload 495 X424 at_493 rfl rfl rfl <| o_aload 497 X424 at_495 rfl rfl rfl <| o_acmp 500 (same := true) X424 at_497 rfl rfl (decide_eq_true rfl) (by decide) (by decide) <| oc 501 (v := 1) X424 at_500 rfl (by decide) <| og 505 X424 at_501 (by decide) ?_
        exact o_nret (y := (1 : Int32)) (t := .boolean) X424 at_505 rfl (by decide) (by simp) (by decide) (by decide) (fun _ CC => rfl)
      · refine o_iand 467 (v := 6) X246 at_466 rfl hk249 <| mS 470 0 X246 (rm_au89 G V248 q13 q24 q35 q46 q57 q68 q79 q90 q101 q112 q123 q134 q145 q156 q167 q178 q189 q200 q211 q222 q233 q244 (by decide) (by decide) (by decide) (by decide) (by decide) (by decide) (by decide)) (u8 G) all0 at_467 rfl rfl rfl lr (by decide) all0 ?_
        rintro _ _ _ _ X425 ⟨xa1_426, _, _, rfl, q429, q430, q431, q432, q433, q434, q435, _⟩ _ _ _
        refine oU 472 (l' := #[ii p1, ii p2, ii p3, ii p4, ii p5, ii 0, rr a2, ii mm3, ii po4, rr b5, rr xa1_426, uu, uu]) X425 at_470 rfl rfl rfl ?_
        by_cases hc437 : (oEq [(xi1_12.toInt8.toInt32), (xi1_23.toInt8.toInt32), (xi1_34.toInt8.toInt32), (xi1_45.toInt8.toInt32), (xi1_56.toInt8.toInt32), (xi1_67.toInt8.toInt32), (xi1_78.toInt8.toInt32), (xi1_89.toInt8.toInt32), (xi1_100.toInt8.toInt32), (xi1_111.toInt8.toInt32), (xi1_122.toInt8.toInt32), (xi1_133.toInt8.toInt32), (xi1_144.toInt8.toInt32), (xi1_155.toInt8.toInt32), (xi1_166.toInt8.toInt32), (xi1_177.toInt8.toInt32), (xi1_188.toInt8.toInt32), (xi1_199.toInt8.toInt32), (xi1_210.toInt8.toInt32), (xi1_221.toInt8.toInt32), (xi1_232.toInt8.toInt32)] [114, 111, 108, 101, 45, 97, 110, 100, 45, 115, 117, 98, 111, 114, 100, 105, 110, 97, 116, 101, 115]) = (0 : Int32)
        · refine oa 474 X425 at_472 rfl rfl <| mS 477 0 X425 (rm_au91 G q429 q430 q431 q433 q434 hc437) (u11 G) (sS (by omega) q432 (sS (by omega) q435 all0)) at_474 rfl rfl rfl lr (by decide) all0 ?_
          rintro _ _ _ _ X438 rfl K438 _ _
          refine oU 479 (l' := #[ii p1, ii p2, ii p3, ii p4, ii p5, ii 0, rr a2, ii mm3, ii po4, rr b5, rr xa1_426, .val .null, uu]) X438 at_477 rfl rfl rfl <| oa 481 X438 at_479 rfl rfl ?_
          have f439 := q429.keep K438
          have f440 := q430.k0 K438
          have f441 := q431.k0 K438
          have f442 := q433.k0 K438
          refine mS 484 0 X438 (rm_au93 G f439 f440 f441 f442 hc437 (by omega)) (u15 G) all0 at_481 rfl rfl rfl lr (by decide) all0 ?_
          rintro _ _ _ _ X443 rfl _ _ _
          refine o_aconstNull 485 X443 at_484 rfl ?_
          have f444 := (sg9 G).ext X443.old.2
          refine mV 488 0 X443 f444 (rm_au18 G ) (u16 G) all0 at_485 rfl rfl rfl lr (by decide) all0 ?_
          rintro _ _ _ _ X445 rfl _ _ _
          refine o_castNull 491 X445 at_488 rfl <| oU 493 (l' := #[ii p1, ii p2, ii p3, ii p4, ii p5, ii 0, rr a2, ii mm3, ii po4, rr b5, rr xa1_426, .val .null, .val .null]) X445 at_491 rfl rfl rfl <| o_aload 495 X445 at_493 rfl rfl rfl <| o_aload 497 X445 at_495 rfl rfl rfl <| o_acmp 500 (same := true) X445 at_497 rfl rfl (decide_eq_true rfl) (by decide) (by decide) <| oc 501 (v := 1) X445 at_500 rfl (by decide) <| og 505 X445 at_501 (by decide) ?_
          exact o_nret (y := (1 : Int32)) (t := .boolean) X445 at_505 rfl (by decide) (by simp) (by decide) (by decide) (fun _ CC => rfl)
        · refine oa 474 X425 at_472 rfl rfl <| mS 477 0 X425 (rm_au95 G q429 q430 q431 q433 q434 hc437) (u11 G) (sS (by omega) q432 (sS (by omega) q435 all0)) at_474 rfl rfl rfl lr (by decide) all0 ?_
          rintro _ _ _ _ X446 rfl K446 _ _
          refine oU 479 (l' := #[ii p1, ii p2, ii p3, ii p4, ii p5, ii 0, rr a2, ii mm3, ii po4, rr b5, rr xa1_426, rr ku3, uu]) X446 at_477 rfl rfl rfl <| oa 481 X446 at_479 rfl rfl ?_
          have f447 := q429.keep K446
          have f448 := q430.k0 K446
          have f449 := q431.k0 K446
          have f450 := q433.k0 K446
          refine mS 484 0 X446 (rm_au100 G f447 f448 f449 f450 hc437 (by omega)) (u15 G) all0 at_481 rfl rfl rfl lr (by decide) all0 ?_
          rintro _ _ _ _ X451 ⟨_, rfl, q453, q454, _⟩ _ _ _
          refine o_aconstNull 485 X451 at_484 rfl <| mV 488 0 X451 q453 (rm_au101 G q454) (u16 G) all0 at_485 rfl rfl rfl lr (by decide) all0 ?_
          rintro _ _ _ _ X456 rfl _ _ _
          have f457 := (sg7 G).ext X456.old.2
          refine o_castY 491 X456 (w141 G) (Ins.self f457) at_488 rfl ?_
          intro _ X459
          refine oU 493 (l' := #[ii p1, ii p2, ii p3, ii p4, ii p5, ii 0, rr a2, ii mm3, ii po4, rr b5, rr xa1_426, rr ku3, rr ku3]) X459 at_491 rfl rfl rfl <| oa 495 X459 at_493 rfl rfl <| oa 497 X459 at_495 rfl rfl <| o_acmp 500 (same := true) X459 at_497 rfl rfl (decide_eq_true rfl) (by decide) (by decide) <| oc 501 (v := 1) X459 at_500 rfl (by decide) <| og 505 X459 at_501 (by decide) ?_
          exact o_nret (y := (1 : Int32)) (t := .boolean) X459 at_505 rfl (by decide) (by simp) (by decide) (by decide) (fun _ CC => rfl)
      · refine o_iand 467 (v := 7) X246 at_466 rfl hk249 <| mS 470 0 X246 (rm_au107 G V248 q13 q24 q35 q46 q57 q68 q79 q90 q101 q112 q123 q134 q145 q156 q167 q178 q189 q200 q211 q222 q233 q244 (by decide) (by decide) (by decide) (by decide) (by decide) (by decide) (by decide)) (u8 G) all0 at_467 rfl rfl rfl lr (by decide) all0 ?_
        rintro _ _ _ _ X460 ⟨xa1_461, _, _, rfl, q464, q465, q466, q467, q468, q469, q470, _⟩ _ _ _
        refine oU 472 (l' := #[ii p1, ii p2, ii p3, ii p4, ii p5, ii 0, rr a2, ii mm3, ii po4, rr b5, rr xa1_461, uu, uu]) X460 at_470 rfl rfl rfl <| oa 474 X460 at_472 rfl rfl <| mS 477 0 X460 (rm_au25 G q464 q465 q466 q468 q469 (by decide) (by decide) (by decide) (by decide)) (u11 G) (sS (by omega) q467 (sS (by omega) q470 all0)) at_474 rfl rfl rfl lr (by decide) all0 ?_
        rintro _ _ _ _ X472 rfl K472 _ _
        refine oU 479 (l' := #[ii p1, ii p2, ii p3, ii p4, ii p5, ii 0, rr a2, ii mm3, ii po4, rr b5, rr xa1_461, .val .null, uu]) X472 at_477 rfl rfl rfl <| oa 481 X472 at_479 rfl rfl ?_
        have f473 := q464.keep K472
        have f474 := q465.k0 K472
        have f475 := q466.k0 K472
        have f476 := q468.k0 K472
        refine mS 484 0 X472 (rm_au17 G f473 f474 f475 f476 (by decide) (by decide) (by decide) (by decide) (by omega)) (u15 G) all0 at_481 rfl rfl rfl lr (by decide) all0 ?_
        rintro _ _ _ _ X477 rfl _ _ _
        refine o_aconstNull 485 X477 at_484 rfl ?_
        have f478 := (sg9 G).ext X477.old.2
        refine mV 488 0 X477 f478 (rm_au18 G ) (u16 G) all0 at_485 rfl rfl rfl lr (by decide) all0 ?_
        rintro _ _ _ _ X479 rfl _ _ _
        refine o_castNull 491 X479 at_488 rfl <| oU 493 (l' := #[ii p1, ii p2, ii p3, ii p4, ii p5, ii 0, rr a2, ii mm3, ii po4, rr b5, rr xa1_461, .val .null, .val .null]) X479 at_491 rfl rfl rfl <| o_aload 495 X479 at_493 rfl rfl rfl <| o_aload 497 X479 at_495 rfl rfl rfl <| o_acmp 500 (same := true) X479 at_497 rfl rfl (decide_eq_true rfl) (by decide) (by decide) <| oc 501 (v := 1) X479 at_500 rfl (by decide) <| og 505 X479 at_501 (by decide) ?_
        exact o_nret (y := (1 : Int32)) (t := .boolean) X479 at_505 rfl (by decide) (by simp) (by decide) (by decide) (fun _ CC => rfl)
    · intro J
      refine oI 48 X2 at_47 rfl rfl <| oc 49 (v := 2) X2 at_48 rfl (by decide) <| o_ishr 50 (v := (p1 >>> ((2 : Int32) &&& 31))) X2 at_49 rfl rfl <| oc 51 (v := 1) X2 at_50 rfl (by decide) <| o_iand 52 (v := ((p1 >>> ((2 : Int32) &&& 31)) &&& (1 : Int32))) X2 at_51 rfl rfl ?_
      by_cases hc480 : ((p1 >>> ((2 : Int32) &&& 31)) &&& (1 : Int32)) = (0 : Int32)
      · refine oy 59 X2 at_52 (by decide) ((if0 _ _).trans (teq hc480).1) <| oc 60 (v := 0) X2 at_59 rfl (by decide) <| oS 62 (l' := #[ii p1, ii p2, ii p3, ii p4, ii p5, ii 0, rr a2, ii 0, uu, uu, uu, uu, uu]) X2 at_60 rfl rfl ?_
        exact J 0 trivial
      · refine on 55 X2 at_52 rfl ((if0 _ _).trans (feq hc480).1) <| oc 56 (v := 1) X2 at_55 rfl (by decide) <| og 60 X2 at_56 (by decide) <| oS 62 (l' := #[ii p1, ii p2, ii p3, ii p4, ii p5, ii 0, rr a2, ii 1, uu, uu, uu, uu, uu]) X2 at_60 rfl rfl ?_
        exact J 1 trivial
  · refine o_iand 3 (v := 1) X0 at_2 rfl hk1 <| oS 5 (l' := #[ii p1, ii p2, ii p3, ii p4, ii p5, ii 1, uu, uu, uu, uu, uu, uu, uu]) X0 at_3 rfl rfl <| oi 7 X0 at_5 rfl rfl <| oy 17 X0 at_7 (by decide) ((if0 _ _).trans (feq (by decide)).2) <| oi 19 X0 at_17 rfl rfl <| oc 20 (v := 1) X0 at_19 rfl (by decide) <| oN 23 X0 at_20 rfl (teq (by decide)).2 <| o_ldcC 25 (n := 16) (vs := own_bs ([114, 111, 108, 101] : List Int32)) (z := (4 : Int32)) X0 (w85 G) (hws_str hw) (by decide) ⟨by decide, rfl⟩ (by decide) (by decide) at_23 rfl (by decide) (by decide) (by decide) (by decide) ?_
    intro a481 b481 kb481 _ h481 _ X481 E481 _ Es481 Cs481 Vs481 As481 _
    have lta481 : h481.size > a481 := Es481.lt
    have ltb481 : h481.size > b481 := As481.lt
    have := E481.1
    have Bs481 : av0 Z h481 b481 kb481 4 [.int 114, .int 111, .int 108, .int 101] := As481
    refine oU 27 (l' := #[ii p1, ii p2, ii p3, ii p4, ii p5, ii 1, rr a481, uu, uu, uu, uu, uu, uu]) X481 at_25 rfl rfl rfl <| og 47 X481 at_27 (by decide) ?_
    refine jn 62 (fun _ => True) (fun a => #[ii p1, ii p2, ii p3, ii p4, ii p5, ii 1, rr a481, ii a, uu, uu, uu, uu, uu]) ?_ ?_
    · intro mm482 _
      show Go _ _ _ _ (State.setTop _ (mkF _ 62 #[ii p1, ii p2, ii p3, ii p4, ii p5, ii 1, rr a481, ii mm482, uu, uu, uu, uu, uu] []))
      refine oI 63 X481 at_62 rfl rfl <| o_ldcI 65 (v := (2147483647 : Int32)) X481 (w8 G) at_63 rfl <| o_iand 66 (v := (p3 &&& (2147483647 : Int32))) X481 at_65 rfl rfl <| ob 68 (v := 22) X481 at_66 rfl (by decide) ?_
      obtain ⟨po483, hpo483⟩ : ∃ z : Int32, ((p3 &&& (2147483647 : Int32)) % (22 : Int32)) = z := ⟨_, rfl⟩
      refine o_irem 69 (v := po483) X481 at_68 rfl (by decide) hpo483 <| oS 71 (l' := #[ii p1, ii p2, ii p3, ii p4, ii p5, ii 1, rr a481, ii mm482, ii po483, uu, uu, uu, uu]) X481 at_69 rfl rfl <| ob 73 (v := 22) X481 at_71 rfl (by decide) <| nP (aty := .char) 75 22 X481 (w9 G) at_73 rfl (by decide) had_char ?_
      intro _ h484 b484 k484 X484 _ _ E484 V484 A484 _ _
      have V485 : av1 Z h484 b484 k484 22 [i0, i0, i0, i0, i0, i0, i0, i0, i0, i0, i0, i0, i0, i0, i0, i0, i0, i0, i0, i0, i0, i0] := V484.pad (pad_rep [] (.int (0 : Int32)) 22)
      refine oD 76 X484 at_75 rfl rfl <| oc 77 (v := 0) X484 at_76 rfl (by decide) <| oa 79 X484 at_77 rfl rfl <| oc 80 (v := 0) X484 at_79 rfl (by decide) <| oi 82 X484 at_80 rfl rfl <| oI 83 X484 at_82 rfl rfl <| oi 85 X484 at_83 rfl rfl <| oi 87 X484 at_85 rfl rfl ?_
      have f486 := Es481.ext E484
      have f487 := Cs481.ext E484
      have f488 := Vs481.ext E484
      have f489 := Bs481.ext E484
      refine mS 90 3 X484 (rm_ch_r0 G f486 f487 f488 f489 (by decide) (by decide)) (u7 G) all0 at_87 rfl rfl rfl lr (by decide) all0 ?_
      rintro _ _ _ _ X490 ⟨xi1_491, rfl, q492⟩ K490 _ _
      have f493 := V485.k0 K490
      have f495 := A484.keep K490
      refine sC 91 0 xi1_491 X490 f493 (by decide) (lb rfl) (own_narC q492) at_90 rfl (by omega) (Or.inr (by omega)) (sx X490 f495 nc0) ?_
      rintro _ _ X494 ⟨_, _, W494⟩ _ V494
      have := W494.size
      have V496 := V494.as [.int xi1_491, i0, i0, i0, i0, i0, i0, i0, i0, i0, i0, i0, i0, i0, i0, i0, i0, i0, i0, i0, i0, i0] rfl
      refine oD 92 X494 at_91 rfl rfl <| oc 93 (v := 1) X494 at_92 rfl (by decide) <| oa 95 X494 at_93 rfl rfl <| oc 96 (v := 1) X494 at_95 rfl (by decide) <| oi 98 X494 at_96 rfl rfl <| oI 99 X494 at_98 rfl rfl <| oi 101 X494 at_99 rfl rfl <| oi 103 X494 at_101 rfl rfl ?_
      have f497 := (f486.keep K490).wr W494
      have f498 := (f487.k0 K490).oth W494 (by omega)
      have f499 := (f488.k0 K490).oth W494 (by omega)
      have f500 := (f489.k0 K490).oth W494 (by omega)
      refine mS 106 3 X494 (rm_ch_r0 G f497 f498 f499 f500 (by decide) (by decide)) (u7 G) all0 at_103 rfl rfl rfl lr (by decide) all0 ?_
      rintro _ _ _ _ X501 ⟨xi1_502, rfl, q503⟩ K501 _ _
      have f504 := V496.k0 K501
      have f506 := (f495.wr W494).keep K501
      refine sC 107 1 xi1_502 X501 f504 (by decide) (lb rfl) (own_narC q503) at_106 rfl (by omega) (Or.inr (by omega)) (sx X501 f506 nc0) ?_
      rintro _ _ X505 ⟨_, _, W505⟩ _ V505
      have := W505.size
      have V507 := V505.as [.int xi1_491, .int xi1_502, i0, i0, i0, i0, i0, i0, i0, i0, i0, i0, i0, i0, i0, i0, i0, i0, i0, i0, i0, i0] rfl
      refine oD 108 X505 at_107 rfl rfl <| oc 109 (v := 2) X505 at_108 rfl (by decide) <| oa 111 X505 at_109 rfl rfl <| oc 112 (v := 2) X505 at_111 rfl (by decide) <| oi 114 X505 at_112 rfl rfl <| oI 115 X505 at_114 rfl rfl <| oi 117 X505 at_115 rfl rfl <| oi 119 X505 at_117 rfl rfl ?_
      have f508 := (f497.keep K501).wr W505
      have f509 := (f498.k0 K501).oth W505 (by omega)
      have f510 := (f499.k0 K501).oth W505 (by omega)
      have f511 := (f500.k0 K501).oth W505 (by omega)
      refine mS 122 3 X505 (rm_ch_r0 G f508 f509 f510 f511 (by decide) (by decide)) (u7 G) all0 at_119 rfl rfl rfl lr (by decide) all0 ?_
      rintro _ _ _ _ X512 ⟨xi1_513, rfl, q514⟩ K512 _ _
      have f515 := V507.k0 K512
      have f517 := (f506.wr W505).keep K512
      refine sC 123 2 xi1_513 X512 f515 (by decide) (lb rfl) (own_narC q514) at_122 rfl (by omega) (Or.inr (by omega)) (sx X512 f517 nc0) ?_
      rintro _ _ X516 ⟨_, _, W516⟩ _ V516
      have := W516.size
      have V518 := V516.as [.int xi1_491, .int xi1_502, .int xi1_513, i0, i0, i0, i0, i0, i0, i0, i0, i0, i0, i0, i0, i0, i0, i0, i0, i0, i0, i0] rfl
      refine oD 124 X516 at_123 rfl rfl <| oc 125 (v := 3) X516 at_124 rfl (by decide) <| oa 127 X516 at_125 rfl rfl <| oc 128 (v := 3) X516 at_127 rfl (by decide) <| oi 130 X516 at_128 rfl rfl <| oI 131 X516 at_130 rfl rfl <| oi 133 X516 at_131 rfl rfl <| oi 135 X516 at_133 rfl rfl ?_
      have f519 := (f508.keep K512).wr W516
      have f520 := (f509.k0 K512).oth W516 (by omega)
      have f521 := (f510.k0 K512).oth W516 (by omega)
      have f522 := (f511.k0 K512).oth W516 (by omega)
      refine mS 138 3 X516 (rm_ch_r0 G f519 f520 f521 f522 (by decide) (by decide)) (u7 G) all0 at_135 rfl rfl rfl lr (by decide) all0 ?_
      rintro _ _ _ _ X523 ⟨xi1_524, rfl, q525⟩ K523 _ _
      have f526 := V518.k0 K523
      have f528 := (f517.wr W516).keep K523
      refine sC 139 3 xi1_524 X523 f526 (by decide) (lb rfl) (own_narC q525) at_138 rfl (by omega) (Or.inr (by omega)) (sx X523 f528 nc0) ?_
      rintro _ _ X527 ⟨_, _, W527⟩ _ V527
      have := W527.size
      have V529 := V527.as [.int xi1_491, .int xi1_502, .int xi1_513, .int xi1_524, i0, i0, i0, i0, i0, i0, i0, i0, i0, i0, i0, i0, i0, i0, i0, i0, i0, i0] rfl
      refine oD 140 X527 at_139 rfl rfl <| oc 141 (v := 4) X527 at_140 rfl (by decide) <| oa 143 X527 at_141 rfl rfl <| oc 144 (v := 4) X527 at_143 rfl (by decide) <| oi 146 X527 at_144 rfl rfl <| oI 147 X527 at_146 rfl rfl <| oi 149 X527 at_147 rfl rfl <| oi 151 X527 at_149 rfl rfl ?_
      have f530 := (f519.keep K523).wr W527
      have f531 := (f520.k0 K523).oth W527 (by omega)
      have f532 := (f521.k0 K523).oth W527 (by omega)
      have f533 := (f522.k0 K523).oth W527 (by omega)
      refine mS 154 3 X527 (rm_ch_r1 G f530 f531 f532 f533 (by decide)) (u7 G) all0 at_151 rfl rfl rfl lr (by decide) all0 ?_
      rintro _ _ _ _ X534 ⟨xi1_535, rfl, q536⟩ K534 _ _
      have f537 := V529.k0 K534
      have f539 := (f528.wr W527).keep K534
      refine sC 155 4 xi1_535 X534 f537 (by decide) (lb rfl) (own_narC q536) at_154 rfl (by omega) (Or.inr (by omega)) (sx X534 f539 nc0) ?_
      rintro _ _ X538 ⟨_, _, W538⟩ _ V538
      have := W538.size
      have V540 := V538.as [.int xi1_491, .int xi1_502, .int xi1_513, .int xi1_524, .int xi1_535, i0, i0, i0, i0, i0, i0, i0, i0, i0, i0, i0, i0, i0, i0, i0, i0, i0] rfl
      refine oD 156 X538 at_155 rfl rfl <| oc 157 (v := 5) X538 at_156 rfl (by decide) <| oa 159 X538 at_157 rfl rfl <| oc 160 (v := 5) X538 at_159 rfl (by decide) <| oi 162 X538 at_160 rfl rfl <| oI 163 X538 at_162 rfl rfl <| oi 165 X538 at_163 rfl rfl <| oi 167 X538 at_165 rfl rfl ?_
      have f541 := (f530.keep K534).wr W538
      have f542 := (f531.k0 K534).oth W538 (by omega)
      have f543 := (f532.k0 K534).oth W538 (by omega)
      have f544 := (f533.k0 K534).oth W538 (by omega)
      refine mS 170 3 X538 (rm_ch_r1 G f541 f542 f543 f544 (by decide)) (u7 G) all0 at_167 rfl rfl rfl lr (by decide) all0 ?_
      rintro _ _ _ _ X545 ⟨xi1_546, rfl, q547⟩ K545 _ _
      have f548 := V540.k0 K545
      have f550 := (f539.wr W538).keep K545
      refine sC 171 5 xi1_546 X545 f548 (by decide) (lb rfl) (own_narC q547) at_170 rfl (by omega) (Or.inr (by omega)) (sx X545 f550 nc0) ?_
      rintro _ _ X549 ⟨_, _, W549⟩ _ V549
      have := W549.size
      have V551 := V549.as [.int xi1_491, .int xi1_502, .int xi1_513, .int xi1_524, .int xi1_535, .int xi1_546, i0, i0, i0, i0, i0, i0, i0, i0, i0, i0, i0, i0, i0, i0, i0, i0] rfl
      refine oD 172 X549 at_171 rfl rfl <| ob 174 (v := 6) X549 at_172 rfl (by decide) <| oa 176 X549 at_174 rfl rfl <| ob 178 (v := 6) X549 at_176 rfl (by decide) <| oi 180 X549 at_178 rfl rfl <| oI 181 X549 at_180 rfl rfl <| oi 183 X549 at_181 rfl rfl <| oi 185 X549 at_183 rfl rfl ?_
      have f552 := (f541.keep K545).wr W549
      have f553 := (f542.k0 K545).oth W549 (by omega)
      have f554 := (f543.k0 K545).oth W549 (by omega)
      have f555 := (f544.k0 K545).oth W549 (by omega)
      refine mS 188 3 X549 (rm_ch_r1 G f552 f553 f554 f555 (by decide)) (u7 G) all0 at_185 rfl rfl rfl lr (by decide) all0 ?_
      rintro _ _ _ _ X556 ⟨xi1_557, rfl, q558⟩ K556 _ _
      have f559 := V551.k0 K556
      have f561 := (f550.wr W549).keep K556
      refine sC 189 6 xi1_557 X556 f559 (by decide) (lb rfl) (own_narC q558) at_188 rfl (by omega) (Or.inr (by omega)) (sx X556 f561 nc0) ?_
      rintro _ _ X560 ⟨_, _, W560⟩ _ V560
      have := W560.size
      have V562 := V560.as [.int xi1_491, .int xi1_502, .int xi1_513, .int xi1_524, .int xi1_535, .int xi1_546, .int xi1_557, i0, i0, i0, i0, i0, i0, i0, i0, i0, i0, i0, i0, i0, i0, i0] rfl
      refine oD 190 X560 at_189 rfl rfl <| ob 192 (v := 7) X560 at_190 rfl (by decide) <| oa 194 X560 at_192 rfl rfl <| ob 196 (v := 7) X560 at_194 rfl (by decide) <| oi 198 X560 at_196 rfl rfl <| oI 199 X560 at_198 rfl rfl <| oi 201 X560 at_199 rfl rfl <| oi 203 X560 at_201 rfl rfl ?_
      have f563 := (f552.keep K556).wr W560
      have f564 := (f553.k0 K556).oth W560 (by omega)
      have f565 := (f554.k0 K556).oth W560 (by omega)
      have f566 := (f555.k0 K556).oth W560 (by omega)
      refine mS 206 3 X560 (rm_ch_r1 G f563 f564 f565 f566 (by decide)) (u7 G) all0 at_203 rfl rfl rfl lr (by decide) all0 ?_
      rintro _ _ _ _ X567 ⟨xi1_568, rfl, q569⟩ K567 _ _
      have f570 := V562.k0 K567
      have f572 := (f561.wr W560).keep K567
      refine sC 207 7 xi1_568 X567 f570 (by decide) (lb rfl) (own_narC q569) at_206 rfl (by omega) (Or.inr (by omega)) (sx X567 f572 nc0) ?_
      rintro _ _ X571 ⟨_, _, W571⟩ _ V571
      have := W571.size
      have V573 := V571.as [.int xi1_491, .int xi1_502, .int xi1_513, .int xi1_524, .int xi1_535, .int xi1_546, .int xi1_557, .int xi1_568, i0, i0, i0, i0, i0, i0, i0, i0, i0, i0, i0, i0, i0, i0] rfl
      refine oD 208 X571 at_207 rfl rfl <| ob 210 (v := 8) X571 at_208 rfl (by decide) <| oa 212 X571 at_210 rfl rfl <| ob 214 (v := 8) X571 at_212 rfl (by decide) <| oi 216 X571 at_214 rfl rfl <| oI 217 X571 at_216 rfl rfl <| oi 219 X571 at_217 rfl rfl <| oi 221 X571 at_219 rfl rfl ?_
      have f574 := (f563.keep K567).wr W571
      have f575 := (f564.k0 K567).oth W571 (by omega)
      have f576 := (f565.k0 K567).oth W571 (by omega)
      have f577 := (f566.k0 K567).oth W571 (by omega)
      refine mS 224 3 X571 (rm_ch_r1 G f574 f575 f576 f577 (by decide)) (u7 G) all0 at_221 rfl rfl rfl lr (by decide) all0 ?_
      rintro _ _ _ _ X578 ⟨xi1_579, rfl, q580⟩ K578 _ _
      have f581 := V573.k0 K578
      have f583 := (f572.wr W571).keep K578
      refine sC 225 8 xi1_579 X578 f581 (by decide) (lb rfl) (own_narC q580) at_224 rfl (by omega) (Or.inr (by omega)) (sx X578 f583 nc0) ?_
      rintro _ _ X582 ⟨_, _, W582⟩ _ V582
      have := W582.size
      have V584 := V582.as [.int xi1_491, .int xi1_502, .int xi1_513, .int xi1_524, .int xi1_535, .int xi1_546, .int xi1_557, .int xi1_568, .int xi1_579, i0, i0, i0, i0, i0, i0, i0, i0, i0, i0, i0, i0, i0] rfl
      refine oD 226 X582 at_225 rfl rfl <| ob 228 (v := 9) X582 at_226 rfl (by decide) <| oa 230 X582 at_228 rfl rfl <| ob 232 (v := 9) X582 at_230 rfl (by decide) <| oi 234 X582 at_232 rfl rfl <| oI 235 X582 at_234 rfl rfl <| oi 237 X582 at_235 rfl rfl <| oi 239 X582 at_237 rfl rfl ?_
      have f585 := (f574.keep K578).wr W582
      have f586 := (f575.k0 K578).oth W582 (by omega)
      have f587 := (f576.k0 K578).oth W582 (by omega)
      have f588 := (f577.k0 K578).oth W582 (by omega)
      refine mS 242 3 X582 (rm_ch_r1 G f585 f586 f587 f588 (by decide)) (u7 G) all0 at_239 rfl rfl rfl lr (by decide) all0 ?_
      rintro _ _ _ _ X589 ⟨xi1_590, rfl, q591⟩ K589 _ _
      have f592 := V584.k0 K589
      have f594 := (f583.wr W582).keep K589
      refine sC 243 9 xi1_590 X589 f592 (by decide) (lb rfl) (own_narC q591) at_242 rfl (by omega) (Or.inr (by omega)) (sx X589 f594 nc0) ?_
      rintro _ _ X593 ⟨_, _, W593⟩ _ V593
      have := W593.size
      have V595 := V593.as [.int xi1_491, .int xi1_502, .int xi1_513, .int xi1_524, .int xi1_535, .int xi1_546, .int xi1_557, .int xi1_568, .int xi1_579, .int xi1_590, i0, i0, i0, i0, i0, i0, i0, i0, i0, i0, i0, i0] rfl
      refine oD 244 X593 at_243 rfl rfl <| ob 246 (v := 10) X593 at_244 rfl (by decide) <| oa 248 X593 at_246 rfl rfl <| ob 250 (v := 10) X593 at_248 rfl (by decide) <| oi 252 X593 at_250 rfl rfl <| oI 253 X593 at_252 rfl rfl <| oi 255 X593 at_253 rfl rfl <| oi 257 X593 at_255 rfl rfl ?_
      have f596 := (f585.keep K589).wr W593
      have f597 := (f586.k0 K589).oth W593 (by omega)
      have f598 := (f587.k0 K589).oth W593 (by omega)
      have f599 := (f588.k0 K589).oth W593 (by omega)
      refine mS 260 3 X593 (rm_ch_r1 G f596 f597 f598 f599 (by decide)) (u7 G) all0 at_257 rfl rfl rfl lr (by decide) all0 ?_
      rintro _ _ _ _ X600 ⟨xi1_601, rfl, q602⟩ K600 _ _
      have f603 := V595.k0 K600
      have f605 := (f594.wr W593).keep K600
      refine sC 261 10 xi1_601 X600 f603 (by decide) (lb rfl) (own_narC q602) at_260 rfl (by omega) (Or.inr (by omega)) (sx X600 f605 nc0) ?_
      rintro _ _ X604 ⟨_, _, W604⟩ _ V604
      have := W604.size
      have V606 := V604.as [.int xi1_491, .int xi1_502, .int xi1_513, .int xi1_524, .int xi1_535, .int xi1_546, .int xi1_557, .int xi1_568, .int xi1_579, .int xi1_590, .int xi1_601, i0, i0, i0, i0, i0, i0, i0, i0, i0, i0, i0] rfl
      refine oD 262 X604 at_261 rfl rfl <| ob 264 (v := 11) X604 at_262 rfl (by decide) <| oa 266 X604 at_264 rfl rfl <| ob 268 (v := 11) X604 at_266 rfl (by decide) <| oi 270 X604 at_268 rfl rfl <| oI 271 X604 at_270 rfl rfl <| oi 273 X604 at_271 rfl rfl <| oi 275 X604 at_273 rfl rfl ?_
      have f607 := (f596.keep K600).wr W604
      have f608 := (f597.k0 K600).oth W604 (by omega)
      have f609 := (f598.k0 K600).oth W604 (by omega)
      have f610 := (f599.k0 K600).oth W604 (by omega)
      refine mS 278 3 X604 (rm_ch_r1 G f607 f608 f609 f610 (by decide)) (u7 G) all0 at_275 rfl rfl rfl lr (by decide) all0 ?_
      rintro _ _ _ _ X611 ⟨xi1_612, rfl, q613⟩ K611 _ _
      have f614 := V606.k0 K611
      have f616 := (f605.wr W604).keep K611
      refine sC 279 11 xi1_612 X611 f614 (by decide) (lb rfl) (own_narC q613) at_278 rfl (by omega) (Or.inr (by omega)) (sx X611 f616 nc0) ?_
      rintro _ _ X615 ⟨_, _, W615⟩ _ V615
      have := W615.size
      have V617 := V615.as [.int xi1_491, .int xi1_502, .int xi1_513, .int xi1_524, .int xi1_535, .int xi1_546, .int xi1_557, .int xi1_568, .int xi1_579, .int xi1_590, .int xi1_601, .int xi1_612, i0, i0, i0, i0, i0, i0, i0, i0, i0, i0] rfl
      refine oD 280 X615 at_279 rfl rfl <| ob 282 (v := 12) X615 at_280 rfl (by decide) <| oa 284 X615 at_282 rfl rfl <| ob 286 (v := 12) X615 at_284 rfl (by decide) <| oi 288 X615 at_286 rfl rfl <| oI 289 X615 at_288 rfl rfl <| oi 291 X615 at_289 rfl rfl <| oi 293 X615 at_291 rfl rfl ?_
      have f618 := (f607.keep K611).wr W615
      have f619 := (f608.k0 K611).oth W615 (by omega)
      have f620 := (f609.k0 K611).oth W615 (by omega)
      have f621 := (f610.k0 K611).oth W615 (by omega)
      refine mS 296 3 X615 (rm_ch_r1 G f618 f619 f620 f621 (by decide)) (u7 G) all0 at_293 rfl rfl rfl lr (by decide) all0 ?_
      rintro _ _ _ _ X622 ⟨xi1_623, rfl, q624⟩ K622 _ _
      have f625 := V617.k0 K622
      have f627 := (f616.wr W615).keep K622
      refine sC 297 12 xi1_623 X622 f625 (by decide) (lb rfl) (own_narC q624) at_296 rfl (by omega) (Or.inr (by omega)) (sx X622 f627 nc0) ?_
      rintro _ _ X626 ⟨_, _, W626⟩ _ V626
      have := W626.size
      have V628 := V626.as [.int xi1_491, .int xi1_502, .int xi1_513, .int xi1_524, .int xi1_535, .int xi1_546, .int xi1_557, .int xi1_568, .int xi1_579, .int xi1_590, .int xi1_601, .int xi1_612, .int xi1_623, i0, i0, i0, i0, i0, i0, i0, i0, i0] rfl
      refine oD 298 X626 at_297 rfl rfl <| ob 300 (v := 13) X626 at_298 rfl (by decide) <| oa 302 X626 at_300 rfl rfl <| ob 304 (v := 13) X626 at_302 rfl (by decide) <| oi 306 X626 at_304 rfl rfl <| oI 307 X626 at_306 rfl rfl <| oi 309 X626 at_307 rfl rfl <| oi 311 X626 at_309 rfl rfl ?_
      have f629 := (f618.keep K622).wr W626
      have f630 := (f619.k0 K622).oth W626 (by omega)
      have f631 := (f620.k0 K622).oth W626 (by omega)
      have f632 := (f621.k0 K622).oth W626 (by omega)
      refine mS 314 3 X626 (rm_ch_r1 G f629 f630 f631 f632 (by decide)) (u7 G) all0 at_311 rfl rfl rfl lr (by decide) all0 ?_
      rintro _ _ _ _ X633 ⟨xi1_634, rfl, q635⟩ K633 _ _
      have f636 := V628.k0 K633
      have f638 := (f627.wr W626).keep K633
      refine sC 315 13 xi1_634 X633 f636 (by decide) (lb rfl) (own_narC q635) at_314 rfl (by omega) (Or.inr (by omega)) (sx X633 f638 nc0) ?_
      rintro _ _ X637 ⟨_, _, W637⟩ _ V637
      have := W637.size
      have V639 := V637.as [.int xi1_491, .int xi1_502, .int xi1_513, .int xi1_524, .int xi1_535, .int xi1_546, .int xi1_557, .int xi1_568, .int xi1_579, .int xi1_590, .int xi1_601, .int xi1_612, .int xi1_623, .int xi1_634, i0, i0, i0, i0, i0, i0, i0, i0] rfl
      refine oD 316 X637 at_315 rfl rfl <| ob 318 (v := 14) X637 at_316 rfl (by decide) <| oa 320 X637 at_318 rfl rfl <| ob 322 (v := 14) X637 at_320 rfl (by decide) <| oi 324 X637 at_322 rfl rfl <| oI 325 X637 at_324 rfl rfl <| oi 327 X637 at_325 rfl rfl <| oi 329 X637 at_327 rfl rfl ?_
      have f640 := (f629.keep K633).wr W637
      have f641 := (f630.k0 K633).oth W637 (by omega)
      have f642 := (f631.k0 K633).oth W637 (by omega)
      have f643 := (f632.k0 K633).oth W637 (by omega)
      refine mS 332 3 X637 (rm_ch_r1 G f640 f641 f642 f643 (by decide)) (u7 G) all0 at_329 rfl rfl rfl lr (by decide) all0 ?_
      rintro _ _ _ _ X644 ⟨xi1_645, rfl, q646⟩ K644 _ _
      have f647 := V639.k0 K644
      have f649 := (f638.wr W637).keep K644
      refine sC 333 14 xi1_645 X644 f647 (by decide) (lb rfl) (own_narC q646) at_332 rfl (by omega) (Or.inr (by omega)) (sx X644 f649 nc0) ?_
      rintro _ _ X648 ⟨_, _, W648⟩ _ V648
      have := W648.size
      have V650 := V648.as [.int xi1_491, .int xi1_502, .int xi1_513, .int xi1_524, .int xi1_535, .int xi1_546, .int xi1_557, .int xi1_568, .int xi1_579, .int xi1_590, .int xi1_601, .int xi1_612, .int xi1_623, .int xi1_634, .int xi1_645, i0, i0, i0, i0, i0, i0, i0] rfl
      refine oD 334 X648 at_333 rfl rfl <| ob 336 (v := 15) X648 at_334 rfl (by decide) <| oa 338 X648 at_336 rfl rfl <| ob 340 (v := 15) X648 at_338 rfl (by decide) <| oi 342 X648 at_340 rfl rfl <| oI 343 X648 at_342 rfl rfl <| oi 345 X648 at_343 rfl rfl <| oi 347 X648 at_345 rfl rfl ?_
      have f651 := (f640.keep K644).wr W648
      have f652 := (f641.k0 K644).oth W648 (by omega)
      have f653 := (f642.k0 K644).oth W648 (by omega)
      have f654 := (f643.k0 K644).oth W648 (by omega)
      refine mS 350 3 X648 (rm_ch_r1 G f651 f652 f653 f654 (by decide)) (u7 G) all0 at_347 rfl rfl rfl lr (by decide) all0 ?_
      rintro _ _ _ _ X655 ⟨xi1_656, rfl, q657⟩ K655 _ _
      have f658 := V650.k0 K655
      have f660 := (f649.wr W648).keep K655
      refine sC 351 15 xi1_656 X655 f658 (by decide) (lb rfl) (own_narC q657) at_350 rfl (by omega) (Or.inr (by omega)) (sx X655 f660 nc0) ?_
      rintro _ _ X659 ⟨_, _, W659⟩ _ V659
      have := W659.size
      have V661 := V659.as [.int xi1_491, .int xi1_502, .int xi1_513, .int xi1_524, .int xi1_535, .int xi1_546, .int xi1_557, .int xi1_568, .int xi1_579, .int xi1_590, .int xi1_601, .int xi1_612, .int xi1_623, .int xi1_634, .int xi1_645, .int xi1_656, i0, i0, i0, i0, i0, i0] rfl
      refine oD 352 X659 at_351 rfl rfl <| ob 354 (v := 16) X659 at_352 rfl (by decide) <| oa 356 X659 at_354 rfl rfl <| ob 358 (v := 16) X659 at_356 rfl (by decide) <| oi 360 X659 at_358 rfl rfl <| oI 361 X659 at_360 rfl rfl <| oi 363 X659 at_361 rfl rfl <| oi 365 X659 at_363 rfl rfl ?_
      have f662 := (f651.keep K655).wr W659
      have f663 := (f652.k0 K655).oth W659 (by omega)
      have f664 := (f653.k0 K655).oth W659 (by omega)
      have f665 := (f654.k0 K655).oth W659 (by omega)
      refine mS 368 3 X659 (rm_ch_r1 G f662 f663 f664 f665 (by decide)) (u7 G) all0 at_365 rfl rfl rfl lr (by decide) all0 ?_
      rintro _ _ _ _ X666 ⟨xi1_667, rfl, q668⟩ K666 _ _
      have f669 := V661.k0 K666
      have f671 := (f660.wr W659).keep K666
      refine sC 369 16 xi1_667 X666 f669 (by decide) (lb rfl) (own_narC q668) at_368 rfl (by omega) (Or.inr (by omega)) (sx X666 f671 nc0) ?_
      rintro _ _ X670 ⟨_, _, W670⟩ _ V670
      have := W670.size
      have V672 := V670.as [.int xi1_491, .int xi1_502, .int xi1_513, .int xi1_524, .int xi1_535, .int xi1_546, .int xi1_557, .int xi1_568, .int xi1_579, .int xi1_590, .int xi1_601, .int xi1_612, .int xi1_623, .int xi1_634, .int xi1_645, .int xi1_656, .int xi1_667, i0, i0, i0, i0, i0] rfl
      refine oD 370 X670 at_369 rfl rfl <| ob 372 (v := 17) X670 at_370 rfl (by decide) <| oa 374 X670 at_372 rfl rfl <| ob 376 (v := 17) X670 at_374 rfl (by decide) <| oi 378 X670 at_376 rfl rfl <| oI 379 X670 at_378 rfl rfl <| oi 381 X670 at_379 rfl rfl <| oi 383 X670 at_381 rfl rfl ?_
      have f673 := (f662.keep K666).wr W670
      have f674 := (f663.k0 K666).oth W670 (by omega)
      have f675 := (f664.k0 K666).oth W670 (by omega)
      have f676 := (f665.k0 K666).oth W670 (by omega)
      refine mS 386 3 X670 (rm_ch_r1 G f673 f674 f675 f676 (by decide)) (u7 G) all0 at_383 rfl rfl rfl lr (by decide) all0 ?_
      rintro _ _ _ _ X677 ⟨xi1_678, rfl, q679⟩ K677 _ _
      have f680 := V672.k0 K677
      have f682 := (f671.wr W670).keep K677
      refine sC 387 17 xi1_678 X677 f680 (by decide) (lb rfl) (own_narC q679) at_386 rfl (by omega) (Or.inr (by omega)) (sx X677 f682 nc0) ?_
      rintro _ _ X681 ⟨_, _, W681⟩ _ V681
      have := W681.size
      have V683 := V681.as [.int xi1_491, .int xi1_502, .int xi1_513, .int xi1_524, .int xi1_535, .int xi1_546, .int xi1_557, .int xi1_568, .int xi1_579, .int xi1_590, .int xi1_601, .int xi1_612, .int xi1_623, .int xi1_634, .int xi1_645, .int xi1_656, .int xi1_667, .int xi1_678, i0, i0, i0, i0] rfl
      refine oD 388 X681 at_387 rfl rfl <| ob 390 (v := 18) X681 at_388 rfl (by decide) <| oa 392 X681 at_390 rfl rfl <| ob 394 (v := 18) X681 at_392 rfl (by decide) <| oi 396 X681 at_394 rfl rfl <| oI 397 X681 at_396 rfl rfl <| oi 399 X681 at_397 rfl rfl <| oi 401 X681 at_399 rfl rfl ?_
      have f684 := (f673.keep K677).wr W681
      have f685 := (f674.k0 K677).oth W681 (by omega)
      have f686 := (f675.k0 K677).oth W681 (by omega)
      have f687 := (f676.k0 K677).oth W681 (by omega)
      refine mS 404 3 X681 (rm_ch_r1 G f684 f685 f686 f687 (by decide)) (u7 G) all0 at_401 rfl rfl rfl lr (by decide) all0 ?_
      rintro _ _ _ _ X688 ⟨xi1_689, rfl, q690⟩ K688 _ _
      have f691 := V683.k0 K688
      have f693 := (f682.wr W681).keep K688
      refine sC 405 18 xi1_689 X688 f691 (by decide) (lb rfl) (own_narC q690) at_404 rfl (by omega) (Or.inr (by omega)) (sx X688 f693 nc0) ?_
      rintro _ _ X692 ⟨_, _, W692⟩ _ V692
      have := W692.size
      have V694 := V692.as [.int xi1_491, .int xi1_502, .int xi1_513, .int xi1_524, .int xi1_535, .int xi1_546, .int xi1_557, .int xi1_568, .int xi1_579, .int xi1_590, .int xi1_601, .int xi1_612, .int xi1_623, .int xi1_634, .int xi1_645, .int xi1_656, .int xi1_667, .int xi1_678, .int xi1_689, i0, i0, i0] rfl
      refine oD 406 X692 at_405 rfl rfl <| ob 408 (v := 19) X692 at_406 rfl (by decide) <| oa 410 X692 at_408 rfl rfl <| ob 412 (v := 19) X692 at_410 rfl (by decide) <| oi 414 X692 at_412 rfl rfl <| oI 415 X692 at_414 rfl rfl <| oi 417 X692 at_415 rfl rfl <| oi 419 X692 at_417 rfl rfl ?_
      have f695 := (f684.keep K688).wr W692
      have f696 := (f685.k0 K688).oth W692 (by omega)
      have f697 := (f686.k0 K688).oth W692 (by omega)
      have f698 := (f687.k0 K688).oth W692 (by omega)
      refine mS 422 3 X692 (rm_ch_r1 G f695 f696 f697 f698 (by decide)) (u7 G) all0 at_419 rfl rfl rfl lr (by decide) all0 ?_
      rintro _ _ _ _ X699 ⟨xi1_700, rfl, q701⟩ K699 _ _
      have f702 := V694.k0 K699
      have f704 := (f693.wr W692).keep K699
      refine sC 423 19 xi1_700 X699 f702 (by decide) (lb rfl) (own_narC q701) at_422 rfl (by omega) (Or.inr (by omega)) (sx X699 f704 nc0) ?_
      rintro _ _ X703 ⟨_, _, W703⟩ _ V703
      have := W703.size
      have V705 := V703.as [.int xi1_491, .int xi1_502, .int xi1_513, .int xi1_524, .int xi1_535, .int xi1_546, .int xi1_557, .int xi1_568, .int xi1_579, .int xi1_590, .int xi1_601, .int xi1_612, .int xi1_623, .int xi1_634, .int xi1_645, .int xi1_656, .int xi1_667, .int xi1_678, .int xi1_689, .int xi1_700, i0, i0] rfl
      refine oD 424 X703 at_423 rfl rfl <| ob 426 (v := 20) X703 at_424 rfl (by decide) <| oa 428 X703 at_426 rfl rfl <| ob 430 (v := 20) X703 at_428 rfl (by decide) <| oi 432 X703 at_430 rfl rfl <| oI 433 X703 at_432 rfl rfl <| oi 435 X703 at_433 rfl rfl <| oi 437 X703 at_435 rfl rfl ?_
      have f706 := (f695.keep K699).wr W703
      have f707 := (f696.k0 K699).oth W703 (by omega)
      have f708 := (f697.k0 K699).oth W703 (by omega)
      have f709 := (f698.k0 K699).oth W703 (by omega)
      refine mS 440 3 X703 (rm_ch_r1 G f706 f707 f708 f709 (by decide)) (u7 G) all0 at_437 rfl rfl rfl lr (by decide) all0 ?_
      rintro _ _ _ _ X710 ⟨xi1_711, rfl, q712⟩ K710 _ _
      have f713 := V705.k0 K710
      have f715 := (f704.wr W703).keep K710
      refine sC 441 20 xi1_711 X710 f713 (by decide) (lb rfl) (own_narC q712) at_440 rfl (by omega) (Or.inr (by omega)) (sx X710 f715 nc0) ?_
      rintro _ _ X714 ⟨_, _, W714⟩ _ V714
      have := W714.size
      have V716 := V714.as [.int xi1_491, .int xi1_502, .int xi1_513, .int xi1_524, .int xi1_535, .int xi1_546, .int xi1_557, .int xi1_568, .int xi1_579, .int xi1_590, .int xi1_601, .int xi1_612, .int xi1_623, .int xi1_634, .int xi1_645, .int xi1_656, .int xi1_667, .int xi1_678, .int xi1_689, .int xi1_700, .int xi1_711, i0] rfl
      refine oD 442 X714 at_441 rfl rfl <| ob 444 (v := 21) X714 at_442 rfl (by decide) <| oa 446 X714 at_444 rfl rfl <| ob 448 (v := 21) X714 at_446 rfl (by decide) <| oi 450 X714 at_448 rfl rfl <| oI 451 X714 at_450 rfl rfl <| oi 453 X714 at_451 rfl rfl <| oi 455 X714 at_453 rfl rfl ?_
      have f717 := (f706.keep K710).wr W714
      have f718 := (f707.k0 K710).oth W714 (by omega)
      have f719 := (f708.k0 K710).oth W714 (by omega)
      have f720 := (f709.k0 K710).oth W714 (by omega)
      refine mS 458 3 X714 (rm_ch_r1 G f717 f718 f719 f720 (by decide)) (u7 G) all0 at_455 rfl rfl rfl lr (by decide) all0 ?_
      rintro _ _ _ _ X721 ⟨xi1_722, rfl, q723⟩ K721 _ _
      have f724 := V716.k0 K721
      have f726 := (f715.wr W714).keep K721
      refine sC 459 21 xi1_722 X721 f724 (by decide) (lb rfl) (own_narC q723) at_458 rfl (by omega) (Or.inr (by omega)) (sx X721 f726 nc0) ?_
      rintro _ _ X725 ⟨_, _, W725⟩ _ V725
      have := W725.size
      have V727 := V725.as [.int xi1_491, .int xi1_502, .int xi1_513, .int xi1_524, .int xi1_535, .int xi1_546, .int xi1_557, .int xi1_568, .int xi1_579, .int xi1_590, .int xi1_601, .int xi1_612, .int xi1_623, .int xi1_634, .int xi1_645, .int xi1_656, .int xi1_667, .int xi1_678, .int xi1_689, .int xi1_700, .int xi1_711, .int xi1_722] rfl
      refine oU 461 (l' := #[ii p1, ii p2, ii p3, ii p4, ii p5, ii 1, rr a481, ii mm482, ii po483, rr b484, uu, uu, uu]) X725 at_459 rfl rfl rfl <| oa 463 X725 at_461 rfl rfl <| oI 464 X725 at_463 rfl rfl <| ob 466 (v := 7) X725 at_464 rfl (by decide) ?_
      rcases own_and7 p2 with hk728 | hk728 | hk728 | hk728 | hk728 | hk728 | hk728 | hk728
      · refine o_iand 467 (v := 0) X725 at_466 rfl hk728 ?_
        have f729 := f726.wr W725
        refine mS 470 0 X725 (rm_au11 G f729 (by decide)) (u8 G) all0 at_467 rfl rfl rfl lr (by decide) all0 ?_
        rintro _ _ _ _ X730 ⟨xa1_731, _, _, rfl, q734, q735, q736, q737, _⟩ _ _ _
        refine oU 472 (l' := #[ii p1, ii p2, ii p3, ii p4, ii p5, ii 1, rr a481, ii mm482, ii po483, rr b484, rr xa1_731, uu, uu]) X730 at_470 rfl rfl rfl ?_
        have f740 := (F_su1 G).ext X730.old.2
        have f741 := (sg0 G).ext X730.old.2
        have := own_neL f740 f741 q736 q737 (by decide)
        have f743 := (F_su2 G).ext X730.old.2
        have f744 := (sg1 G).ext X730.old.2
        have := own_neL f743 f744 q736 q737 (by decide)
        have f746 := (F_su3 G).ext X730.old.2
        have f747 := (sg2 G).ext X730.old.2
        have := own_neL f746 f747 q736 q737 (by decide)
        have f749 := (F_su4 G).ext X730.old.2
        have f750 := (sg3 G).ext X730.old.2
        have := own_neL f749 f750 q736 q737 (by decide)
        refine oa 474 X730 at_472 rfl rfl <| mS 477 0 X730 (rm_au14 G q734 q735 q736 q737 (by decide)) (u11 G) all0 at_474 rfl rfl rfl lr (by decide) all0 ?_
        rintro _ _ _ _ X751 rfl K751 _ _
        refine oU 479 (l' := #[ii p1, ii p2, ii p3, ii p4, ii p5, ii 1, rr a481, ii mm482, ii po483, rr b484, rr xa1_731, .val .null, uu]) X751 at_477 rfl rfl rfl <| oa 481 X751 at_479 rfl rfl ?_
        have f752 := q734.keep K751
        have f753 := q735.k0 K751
        have f754 := q736.k0 K751
        have f755 := q737.k0 K751
        refine mS 484 0 X751 (rm_au17 G f752 f753 f754 f755 (by decide) (by decide) (by decide) (by decide) (by omega)) (u15 G) all0 at_481 rfl rfl rfl lr (by decide) all0 ?_
        rintro _ _ _ _ X756 rfl _ _ _
        refine o_aconstNull 485 X756 at_484 rfl ?_
        have f757 := (sg9 G).ext X756.old.2
        refine mV 488 0 X756 f757 (rm_au18 G ) (u16 G) all0 at_485 rfl rfl rfl lr (by decide) all0 ?_
        rintro _ _ _ _ X758 rfl _ _ _
        refine o_castNull 491 X758 at_488 rfl <| oU 493 (l' := #[ii p1, ii p2, ii p3, ii p4, ii p5, ii 1, rr a481, ii mm482, ii po483, rr b484, rr xa1_731, .val .null, .val .null]) X758 at_491 rfl rfl rfl <| o_aload 495 X758 at_493 rfl rfl rfl <| o_aload 497 X758 at_495 rfl rfl rfl <| o_acmp 500 (same := true) X758 at_497 rfl rfl (decide_eq_true rfl) (by decide) (by decide) <| oc 501 (v := 1) X758 at_500 rfl (by decide) <| og 505 X758 at_501 (by decide) ?_
        exact o_nret (y := (1 : Int32)) (t := .boolean) X758 at_505 rfl (by decide) (by simp) (by decide) (by decide) (fun _ CC => rfl)
      · refine o_iand 467 (v := 1) X725 at_466 rfl hk728 <| mS 470 0 X725 (rm_au24 G V727 q492 q503 q514 q525 q536 q547 q558 q569 q580 q591 q602 q613 q624 q635 q646 q657 q668 q679 q690 q701 q712 q723 (by decide) (by decide)) (u8 G) all0 at_467 rfl rfl rfl lr (by decide) all0 ?_
        rintro _ _ _ _ X759 ⟨xa1_760, _, _, rfl, q763, q764, q765, q766, q767, q768, q769, _⟩ _ _ _
        refine oU 472 (l' := #[ii p1, ii p2, ii p3, ii p4, ii p5, ii 1, rr a481, ii mm482, ii po483, rr b484, rr xa1_760, uu, uu]) X759 at_470 rfl rfl rfl <| oa 474 X759 at_472 rfl rfl <| mS 477 0 X759 (rm_au25 G q763 q764 q765 q767 q768 (by decide) (by decide) (by decide) (by decide)) (u11 G) (sS (by omega) q766 (sS (by omega) q769 all0)) at_474 rfl rfl rfl lr (by decide) all0 ?_
        rintro _ _ _ _ X771 rfl K771 _ _
        refine oU 479 (l' := #[ii p1, ii p2, ii p3, ii p4, ii p5, ii 1, rr a481, ii mm482, ii po483, rr b484, rr xa1_760, .val .null, uu]) X771 at_477 rfl rfl rfl <| oa 481 X771 at_479 rfl rfl ?_
        have f772 := q763.keep K771
        have f773 := q764.k0 K771
        have f774 := q765.k0 K771
        have f775 := q767.k0 K771
        refine mS 484 0 X771 (rm_au17 G f772 f773 f774 f775 (by decide) (by decide) (by decide) (by decide) (by omega)) (u15 G) all0 at_481 rfl rfl rfl lr (by decide) all0 ?_
        rintro _ _ _ _ X776 rfl _ _ _
        refine o_aconstNull 485 X776 at_484 rfl ?_
        have f777 := (sg9 G).ext X776.old.2
        refine mV 488 0 X776 f777 (rm_au18 G ) (u16 G) all0 at_485 rfl rfl rfl lr (by decide) all0 ?_
        rintro _ _ _ _ X778 rfl _ _ _
        refine o_castNull 491 X778 at_488 rfl <| oU 493 (l' := #[ii p1, ii p2, ii p3, ii p4, ii p5, ii 1, rr a481, ii mm482, ii po483, rr b484, rr xa1_760, .val .null, .val .null]) X778 at_491 rfl rfl rfl <| o_aload 495 X778 at_493 rfl rfl rfl <| o_aload 497 X778 at_495 rfl rfl rfl <| o_acmp 500 (same := true) X778 at_497 rfl rfl (decide_eq_true rfl) (by decide) (by decide) <| oc 501 (v := 1) X778 at_500 rfl (by decide) <| og 505 X778 at_501 (by decide) ?_
        exact o_nret (y := (1 : Int32)) (t := .boolean) X778 at_505 rfl (by decide) (by simp) (by decide) (by decide) (fun _ CC => rfl)
      · refine o_iand 467 (v := 2) X725 at_466 rfl hk728 <| mS 470 0 X725 (rm_au31 G V727 q492 q503 q514 q525 q536 q547 q558 q569 q580 q591 q602 q613 q624 q635 q646 q657 q668 q679 q690 q701 q712 q723 (by decide) (by decide) (by decide)) (u8 G) all0 at_467 rfl rfl rfl lr (by decide) all0 ?_
        rintro _ _ _ _ X779 ⟨xa1_780, _, _, rfl, q783, q784, q785, q786, q787, q788, q789, _⟩ _ _ _
        refine oU 472 (l' := #[ii p1, ii p2, ii p3, ii p4, ii p5, ii 1, rr a481, ii mm482, ii po483, rr b484, rr xa1_780, uu, uu]) X779 at_470 rfl rfl rfl ?_
        by_cases hc791 : (oEq [(xi1_491.toInt8.toInt32), (xi1_502.toInt8.toInt32), (xi1_513.toInt8.toInt32), (xi1_524.toInt8.toInt32)] [117, 115, 101, 114]) = (0 : Int32)
        · by_cases hc792 : (oEq [(xi1_491.toInt8.toInt32), (xi1_502.toInt8.toInt32), (xi1_513.toInt8.toInt32), (xi1_524.toInt8.toInt32)] [114, 111, 108, 101]) = (0 : Int32)
          · refine oa 474 X779 at_472 rfl rfl <| mS 477 0 X779 (rm_au34 G q783 q784 q785 q787 q788 hc792 hc791) (u11 G) (sS (by omega) q786 (sS (by omega) q789 all0)) at_474 rfl rfl rfl lr (by decide) all0 ?_
            rintro _ _ _ _ X793 rfl K793 _ _
            refine oU 479 (l' := #[ii p1, ii p2, ii p3, ii p4, ii p5, ii 1, rr a481, ii mm482, ii po483, rr b484, rr xa1_780, .val .null, uu]) X793 at_477 rfl rfl rfl <| oa 481 X793 at_479 rfl rfl ?_
            have f794 := q783.keep K793
            have f795 := q784.k0 K793
            have f796 := q785.k0 K793
            have f797 := q787.k0 K793
            refine mS 484 0 X793 (rm_au37 G f794 f795 f796 f797 hc792 hc791 (by omega)) (u15 G) all0 at_481 rfl rfl rfl lr (by decide) all0 ?_
            rintro _ _ _ _ X798 rfl _ _ _
            refine o_aconstNull 485 X798 at_484 rfl ?_
            have f799 := (sg9 G).ext X798.old.2
            refine mV 488 0 X798 f799 (rm_au18 G ) (u16 G) all0 at_485 rfl rfl rfl lr (by decide) all0 ?_
            rintro _ _ _ _ X800 rfl _ _ _
            refine o_castNull 491 X800 at_488 rfl <| oU 493 (l' := #[ii p1, ii p2, ii p3, ii p4, ii p5, ii 1, rr a481, ii mm482, ii po483, rr b484, rr xa1_780, .val .null, .val .null]) X800 at_491 rfl rfl rfl <| o_aload 495 X800 at_493 rfl rfl rfl <| o_aload 497 X800 at_495 rfl rfl rfl <| o_acmp 500 (same := true) X800 at_497 rfl rfl (decide_eq_true rfl) (by decide) (by decide) <| oc 501 (v := 1) X800 at_500 rfl (by decide) <| og 505 X800 at_501 (by decide) ?_
            exact o_nret (y := (1 : Int32)) (t := .boolean) X800 at_505 rfl (by decide) (by simp) (by decide) (by decide) (fun _ CC => rfl)
          · refine oa 474 X779 at_472 rfl rfl <| mS 477 0 X779 (rm_au39 G q783 q784 q785 q787 q788 hc792 hc791) (u11 G) (sS (by omega) q786 (sS (by omega) q789 all0)) at_474 rfl rfl rfl lr (by decide) all0 ?_
            rintro _ _ _ _ X801 rfl K801 _ _
            refine oU 479 (l' := #[ii p1, ii p2, ii p3, ii p4, ii p5, ii 1, rr a481, ii mm482, ii po483, rr b484, rr xa1_780, rr ku2, uu]) X801 at_477 rfl rfl rfl <| oa 481 X801 at_479 rfl rfl ?_
            have f802 := q783.keep K801
            have f803 := q784.k0 K801
            have f804 := q785.k0 K801
            have f805 := q787.k0 K801
            refine mS 484 0 X801 (rm_au44 G f802 f803 f804 f805 hc792 hc791 (by omega)) (u15 G) all0 at_481 rfl rfl rfl lr (by decide) all0 ?_
            rintro _ _ _ _ X806 ⟨_, rfl, q808, q809, _⟩ _ _ _
            refine o_aconstNull 485 X806 at_484 rfl <| mV 488 0 X806 q808 (rm_au45 G q809) (u16 G) all0 at_485 rfl rfl rfl lr (by decide) all0 ?_
            rintro _ _ _ _ X811 rfl _ _ _
            have f812 := (sg6 G).ext X811.old.2
            refine o_castY 491 X811 (w141 G) (Ins.self f812) at_488 rfl ?_
            intro _ X814
            refine oU 493 (l' := #[ii p1, ii p2, ii p3, ii p4, ii p5, ii 1, rr a481, ii mm482, ii po483, rr b484, rr xa1_780, rr ku2, rr ku2]) X814 at_491 rfl rfl rfl <| oa 495 X814 at_493 rfl rfl <| oa 497 X814 at_495 rfl rfl <| o_acmp 500 (same := true) X814 at_497 rfl rfl (decide_eq_true rfl) (by decide) (by decide) <| oc 501 (v := 1) X814 at_500 rfl (by decide) <| og 505 X814 at_501 (by decide) ?_
            exact o_nret (y := (1 : Int32)) (t := .boolean) X814 at_505 rfl (by decide) (by simp) (by decide) (by decide) (fun _ CC => rfl)
        · refine oa 474 X779 at_472 rfl rfl <| mS 477 0 X779 (rm_au47 G q783 q784 q785 q787 q788 hc791) (u11 G) (sS (by omega) q786 (sS (by omega) q789 all0)) at_474 rfl rfl rfl lr (by decide) all0 ?_
          rintro _ _ _ _ X815 rfl K815 _ _
          refine oU 479 (l' := #[ii p1, ii p2, ii p3, ii p4, ii p5, ii 1, rr a481, ii mm482, ii po483, rr b484, rr xa1_780, rr ku1, uu]) X815 at_477 rfl rfl rfl <| oa 481 X815 at_479 rfl rfl ?_
          have f816 := q783.keep K815
          have f817 := q784.k0 K815
          have f818 := q785.k0 K815
          have f819 := q787.k0 K815
          refine mS 484 0 X815 (rm_au52 G f816 f817 f818 f819 hc791 (by omega)) (u15 G) all0 at_481 rfl rfl rfl lr (by decide) all0 ?_
          rintro _ _ _ _ X820 ⟨_, rfl, q822, q823, _⟩ _ _ _
          refine o_aconstNull 485 X820 at_484 rfl <| mV 488 0 X820 q822 (rm_au53 G q823) (u16 G) all0 at_485 rfl rfl rfl lr (by decide) all0 ?_
          rintro _ _ _ _ X825 rfl _ _ _
          have f826 := (sg5 G).ext X825.old.2
          refine o_castY 491 X825 (w141 G) (Ins.self f826) at_488 rfl ?_
          intro _ X828
          refine oU 493 (l' := #[ii p1, ii p2, ii p3, ii p4, ii p5, ii 1, rr a481, ii mm482, ii po483, rr b484, rr xa1_780, rr ku1, rr ku1]) X828 at_491 rfl rfl rfl <| oa 495 X828 at_493 rfl rfl <| oa 497 X828 at_495 rfl rfl <| o_acmp 500 (same := true) X828 at_497 rfl rfl (decide_eq_true rfl) (by decide) (by decide) <| oc 501 (v := 1) X828 at_500 rfl (by decide) <| og 505 X828 at_501 (by decide) ?_
          exact o_nret (y := (1 : Int32)) (t := .boolean) X828 at_505 rfl (by decide) (by simp) (by decide) (by decide) (fun _ CC => rfl)
      · refine o_iand 467 (v := 3) X725 at_466 rfl hk728 <| mS 470 0 X725 (rm_au59 G V727 q492 q503 q514 q525 q536 q547 q558 q569 q580 q591 q602 q613 q624 q635 q646 q657 q668 q679 q690 q701 q712 q723 (by decide) (by decide) (by decide) (by decide)) (u8 G) all0 at_467 rfl rfl rfl lr (by decide) all0 ?_
        rintro _ _ _ _ X829 ⟨xa1_830, _, _, rfl, q833, q834, q835, q836, q837, q838, q839, _⟩ _ _ _
        refine oU 472 (l' := #[ii p1, ii p2, ii p3, ii p4, ii p5, ii 1, rr a481, ii mm482, ii po483, rr b484, rr xa1_830, uu, uu]) X829 at_470 rfl rfl rfl ?_
        by_cases hc841 : (oEq [(xi1_491.toInt8.toInt32), (xi1_502.toInt8.toInt32), (xi1_513.toInt8.toInt32), (xi1_524.toInt8.toInt32), (xi1_535.toInt8.toInt32)] [103, 114, 111, 117, 112]) = (0 : Int32)
        · refine oa 474 X829 at_472 rfl rfl <| mS 477 0 X829 (rm_au61 G q833 q834 q835 q837 q838 hc841) (u11 G) (sS (by omega) q836 (sS (by omega) q839 all0)) at_474 rfl rfl rfl lr (by decide) all0 ?_
          rintro _ _ _ _ X842 rfl K842 _ _
          refine oU 479 (l' := #[ii p1, ii p2, ii p3, ii p4, ii p5, ii 1, rr a481, ii mm482, ii po483, rr b484, rr xa1_830, .val .null, uu]) X842 at_477 rfl rfl rfl <| oa 481 X842 at_479 rfl rfl ?_
          have f843 := q833.keep K842
          have f844 := q834.k0 K842
          have f845 := q835.k0 K842
          have f846 := q837.k0 K842
          refine mS 484 0 X842 (rm_au63 G f843 f844 f845 f846 hc841 (by omega)) (u15 G) all0 at_481 rfl rfl rfl lr (by decide) all0 ?_
          rintro _ _ _ _ X847 rfl _ _ _
          refine o_aconstNull 485 X847 at_484 rfl ?_
          have f848 := (sg9 G).ext X847.old.2
          refine mV 488 0 X847 f848 (rm_au18 G ) (u16 G) all0 at_485 rfl rfl rfl lr (by decide) all0 ?_
          rintro _ _ _ _ X849 rfl _ _ _
          refine o_castNull 491 X849 at_488 rfl <| oU 493 (l' := #[ii p1, ii p2, ii p3, ii p4, ii p5, ii 1, rr a481, ii mm482, ii po483, rr b484, rr xa1_830, .val .null, .val .null]) X849 at_491 rfl rfl rfl <| o_aload 495 X849 at_493 rfl rfl rfl <| o_aload 497 X849 at_495 rfl rfl rfl <| o_acmp 500 (same := true) X849 at_497 rfl rfl (decide_eq_true rfl) (by decide) (by decide) <| oc 501 (v := 1) X849 at_500 rfl (by decide) <| og 505 X849 at_501 (by decide) ?_
          exact o_nret (y := (1 : Int32)) (t := .boolean) X849 at_505 rfl (by decide) (by simp) (by decide) (by decide) (fun _ CC => rfl)
        · refine oa 474 X829 at_472 rfl rfl <| mS 477 0 X829 (rm_au65 G q833 q834 q835 q837 q838 hc841) (u11 G) (sS (by omega) q836 (sS (by omega) q839 all0)) at_474 rfl rfl rfl lr (by decide) all0 ?_
          rintro _ _ _ _ X850 rfl K850 _ _
          refine oU 479 (l' := #[ii p1, ii p2, ii p3, ii p4, ii p5, ii 1, rr a481, ii mm482, ii po483, rr b484, rr xa1_830, rr ku4, uu]) X850 at_477 rfl rfl rfl <| oa 481 X850 at_479 rfl rfl ?_
          have f851 := q833.keep K850
          have f852 := q834.k0 K850
          have f853 := q835.k0 K850
          have f854 := q837.k0 K850
          refine mS 484 0 X850 (rm_au70 G f851 f852 f853 f854 hc841 (by omega)) (u15 G) all0 at_481 rfl rfl rfl lr (by decide) all0 ?_
          rintro _ _ _ _ X855 ⟨_, rfl, q857, q858, _⟩ _ _ _
          refine o_aconstNull 485 X855 at_484 rfl <| mV 488 0 X855 q857 (rm_au71 G q858) (u16 G) all0 at_485 rfl rfl rfl lr (by decide) all0 ?_
          rintro _ _ _ _ X860 rfl _ _ _
          have f861 := (sg8 G).ext X860.old.2
          refine o_castY 491 X860 (w141 G) (Ins.self f861) at_488 rfl ?_
          intro _ X863
          refine oU 493 (l' := #[ii p1, ii p2, ii p3, ii p4, ii p5, ii 1, rr a481, ii mm482, ii po483, rr b484, rr xa1_830, rr ku4, rr ku4]) X863 at_491 rfl rfl rfl <| oa 495 X863 at_493 rfl rfl <| oa 497 X863 at_495 rfl rfl <| o_acmp 500 (same := true) X863 at_497 rfl rfl (decide_eq_true rfl) (by decide) (by decide) <| oc 501 (v := 1) X863 at_500 rfl (by decide) <| og 505 X863 at_501 (by decide) ?_
          exact o_nret (y := (1 : Int32)) (t := .boolean) X863 at_505 rfl (by decide) (by simp) (by decide) (by decide) (fun _ CC => rfl)
      · refine o_iand 467 (v := 4) X725 at_466 rfl hk728 <| mS 470 0 X725 (rm_au77 G V727 q492 q503 q514 q525 q536 q547 q558 q569 q580 q591 q602 q613 q624 q635 q646 q657 q668 q679 q690 q701 q712 q723 (by decide) (by decide) (by decide) (by decide) (by decide)) (u8 G) all0 at_467 rfl rfl rfl lr (by decide) all0 ?_
        rintro _ _ _ _ X864 ⟨xa1_865, _, _, rfl, q868, q869, q870, q871, q872, q873, q874, _⟩ _ _ _
        refine oU 472 (l' := #[ii p1, ii p2, ii p3, ii p4, ii p5, ii 1, rr a481, ii mm482, ii po483, rr b484, rr xa1_865, uu, uu]) X864 at_470 rfl rfl rfl <| oa 474 X864 at_472 rfl rfl <| mS 477 0 X864 (rm_au25 G q868 q869 q870 q872 q873 (by decide) (by decide) (by decide) (by decide)) (u11 G) (sS (by omega) q871 (sS (by omega) q874 all0)) at_474 rfl rfl rfl lr (by decide) all0 ?_
        rintro _ _ _ _ X876 rfl K876 _ _
        refine oU 479 (l' := #[ii p1, ii p2, ii p3, ii p4, ii p5, ii 1, rr a481, ii mm482, ii po483, rr b484, rr xa1_865, .val .null, uu]) X876 at_477 rfl rfl rfl <| oa 481 X876 at_479 rfl rfl ?_
        have f877 := q868.keep K876
        have f878 := q869.k0 K876
        have f879 := q870.k0 K876
        have f880 := q872.k0 K876
        refine mS 484 0 X876 (rm_au17 G f877 f878 f879 f880 (by decide) (by decide) (by decide) (by decide) (by omega)) (u15 G) all0 at_481 rfl rfl rfl lr (by decide) all0 ?_
        rintro _ _ _ _ X881 rfl _ _ _
        refine o_aconstNull 485 X881 at_484 rfl ?_
        have f882 := (sg9 G).ext X881.old.2
        refine mV 488 0 X881 f882 (rm_au18 G ) (u16 G) all0 at_485 rfl rfl rfl lr (by decide) all0 ?_
        rintro _ _ _ _ X883 rfl _ _ _
        refine o_castNull 491 X883 at_488 rfl <| oU 493 (l' := #[ii p1, ii p2, ii p3, ii p4, ii p5, ii 1, rr a481, ii mm482, ii po483, rr b484, rr xa1_865, .val .null, .val .null]) X883 at_491 rfl rfl rfl <| o_aload 495 X883 at_493 rfl rfl rfl <| o_aload 497 X883 at_495 rfl rfl rfl <| o_acmp 500 (same := true) X883 at_497 rfl rfl (decide_eq_true rfl) (by decide) (by decide) <| oc 501 (v := 1) X883 at_500 rfl (by decide) <| og 505 X883 at_501 (by decide) ?_
        exact o_nret (y := (1 : Int32)) (t := .boolean) X883 at_505 rfl (by decide) (by simp) (by decide) (by decide) (fun _ CC => rfl)
      · refine o_iand 467 (v := 5) X725 at_466 rfl hk728 <| mS 470 0 X725 (rm_au83 G V727 q492 q503 q514 q525 q536 q547 q558 q569 q580 q591 q602 q613 q624 q635 q646 q657 q668 q679 q690 q701 q712 q723 (by decide) (by decide) (by decide) (by decide) (by decide) (by decide)) (u8 G) all0 at_467 rfl rfl rfl lr (by decide) all0 ?_
        rintro _ _ _ _ X884 ⟨xa1_885, _, _, rfl, q888, q889, q890, q891, q892, q893, q894, _⟩ _ _ _
        refine oU 472 (l' := #[ii p1, ii p2, ii p3, ii p4, ii p5, ii 1, rr a481, ii mm482, ii po483, rr b484, rr xa1_885, uu, uu]) X884 at_470 rfl rfl rfl <| oa 474 X884 at_472 rfl rfl <| mS 477 0 X884 (rm_au25 G q888 q889 q890 q892 q893 (by decide) (by decide) (by decide) (by decide)) (u11 G) (sS (by omega) q891 (sS (by omega) q894 all0)) at_474 rfl rfl rfl lr (by decide) all0 ?_
        rintro _ _ _ _ X896 rfl K896 _ _
        refine oU 479 (l' := #[ii p1, ii p2, ii p3, ii p4, ii p5, ii 1, rr a481, ii mm482, ii po483, rr b484, rr xa1_885, .val .null, uu]) X896 at_477 rfl rfl rfl <| oa 481 X896 at_479 rfl rfl ?_
        have f897 := q888.keep K896
        have f898 := q889.k0 K896
        have f899 := q890.k0 K896
        have f900 := q892.k0 K896
        refine mS 484 0 X896 (rm_au17 G f897 f898 f899 f900 (by decide) (by decide) (by decide) (by decide) (by omega)) (u15 G) all0 at_481 rfl rfl rfl lr (by decide) all0 ?_
        rintro _ _ _ _ X901 rfl _ _ _
        refine o_aconstNull 485 X901 at_484 rfl ?_
        have f902 := (sg9 G).ext X901.old.2
        refine mV 488 0 X901 f902 (rm_au18 G ) (u16 G) all0 at_485 rfl rfl rfl lr (by decide) all0 ?_
        rintro _ _ _ _ X903 rfl _ _ _
        refine o_castNull 491 X903 at_488 rfl <| oU 493 (l' := #[ii p1, ii p2, ii p3, ii p4, ii p5, ii 1, rr a481, ii mm482, ii po483, rr b484, rr xa1_885, .val .null, .val .null]) X903 at_491 rfl rfl rfl <| o_aload 495 X903 at_493 rfl rfl rfl <| o_aload 497 X903 at_495 rfl rfl rfl <| o_acmp 500 (same := true) X903 at_497 rfl rfl (decide_eq_true rfl) (by decide) (by decide) <| oc 501 (v := 1) X903 at_500 rfl (by decide) <| og 505 X903 at_501 (by decide) ?_
        exact o_nret (y := (1 : Int32)) (t := .boolean) X903 at_505 rfl (by decide) (by simp) (by decide) (by decide) (fun _ CC => rfl)
      · refine o_iand 467 (v := 6) X725 at_466 rfl hk728 <| mS 470 0 X725 (rm_au89 G V727 q492 q503 q514 q525 q536 q547 q558 q569 q580 q591 q602 q613 q624 q635 q646 q657 q668 q679 q690 q701 q712 q723 (by decide) (by decide) (by decide) (by decide) (by decide) (by decide) (by decide)) (u8 G) all0 at_467 rfl rfl rfl lr (by decide) all0 ?_
        rintro _ _ _ _ X904 ⟨xa1_905, _, _, rfl, q908, q909, q910, q911, q912, q913, q914, _⟩ _ _ _
        refine oU 472 (l' := #[ii p1, ii p2, ii p3, ii p4, ii p5, ii 1, rr a481, ii mm482, ii po483, rr b484, rr xa1_905, uu, uu]) X904 at_470 rfl rfl rfl ?_
        by_cases hc916 : (oEq [(xi1_491.toInt8.toInt32), (xi1_502.toInt8.toInt32), (xi1_513.toInt8.toInt32), (xi1_524.toInt8.toInt32), (xi1_535.toInt8.toInt32), (xi1_546.toInt8.toInt32), (xi1_557.toInt8.toInt32), (xi1_568.toInt8.toInt32), (xi1_579.toInt8.toInt32), (xi1_590.toInt8.toInt32), (xi1_601.toInt8.toInt32), (xi1_612.toInt8.toInt32), (xi1_623.toInt8.toInt32), (xi1_634.toInt8.toInt32), (xi1_645.toInt8.toInt32), (xi1_656.toInt8.toInt32), (xi1_667.toInt8.toInt32), (xi1_678.toInt8.toInt32), (xi1_689.toInt8.toInt32), (xi1_700.toInt8.toInt32), (xi1_711.toInt8.toInt32)] [114, 111, 108, 101, 45, 97, 110, 100, 45, 115, 117, 98, 111, 114, 100, 105, 110, 97, 116, 101, 115]) = (0 : Int32)
        · refine oa 474 X904 at_472 rfl rfl <| mS 477 0 X904 (rm_au91 G q908 q909 q910 q912 q913 hc916) (u11 G) (sS (by omega) q911 (sS (by omega) q914 all0)) at_474 rfl rfl rfl lr (by decide) all0 ?_
          rintro _ _ _ _ X917 rfl K917 _ _
          refine oU 479 (l' := #[ii p1, ii p2, ii p3, ii p4, ii p5, ii 1, rr a481, ii mm482, ii po483, rr b484, rr xa1_905, .val .null, uu]) X917 at_477 rfl rfl rfl <| oa 481 X917 at_479 rfl rfl ?_
          have f918 := q908.keep K917
          have f919 := q909.k0 K917
          have f920 := q910.k0 K917
          have f921 := q912.k0 K917
          refine mS 484 0 X917 (rm_au93 G f918 f919 f920 f921 hc916 (by omega)) (u15 G) all0 at_481 rfl rfl rfl lr (by decide) all0 ?_
          rintro _ _ _ _ X922 rfl _ _ _
          refine o_aconstNull 485 X922 at_484 rfl ?_
          have f923 := (sg9 G).ext X922.old.2
          refine mV 488 0 X922 f923 (rm_au18 G ) (u16 G) all0 at_485 rfl rfl rfl lr (by decide) all0 ?_
          rintro _ _ _ _ X924 rfl _ _ _
          refine o_castNull 491 X924 at_488 rfl <| oU 493 (l' := #[ii p1, ii p2, ii p3, ii p4, ii p5, ii 1, rr a481, ii mm482, ii po483, rr b484, rr xa1_905, .val .null, .val .null]) X924 at_491 rfl rfl rfl <| o_aload 495 X924 at_493 rfl rfl rfl <| o_aload 497 X924 at_495 rfl rfl rfl <| o_acmp 500 (same := true) X924 at_497 rfl rfl (decide_eq_true rfl) (by decide) (by decide) <| oc 501 (v := 1) X924 at_500 rfl (by decide) <| og 505 X924 at_501 (by decide) ?_
          exact o_nret (y := (1 : Int32)) (t := .boolean) X924 at_505 rfl (by decide) (by simp) (by decide) (by decide) (fun _ CC => rfl)
        · refine oa 474 X904 at_472 rfl rfl <| mS 477 0 X904 (rm_au95 G q908 q909 q910 q912 q913 hc916) (u11 G) (sS (by omega) q911 (sS (by omega) q914 all0)) at_474 rfl rfl rfl lr (by decide) all0 ?_
          rintro _ _ _ _ X925 rfl K925 _ _
          refine oU 479 (l' := #[ii p1, ii p2, ii p3, ii p4, ii p5, ii 1, rr a481, ii mm482, ii po483, rr b484, rr xa1_905, rr ku3, uu]) X925 at_477 rfl rfl rfl <| oa 481 X925 at_479 rfl rfl ?_
          have f926 := q908.keep K925
          have f927 := q909.k0 K925
          have f928 := q910.k0 K925
          have f929 := q912.k0 K925
          refine mS 484 0 X925 (rm_au100 G f926 f927 f928 f929 hc916 (by omega)) (u15 G) all0 at_481 rfl rfl rfl lr (by decide) all0 ?_
          rintro _ _ _ _ X930 ⟨_, rfl, q932, q933, _⟩ _ _ _
          refine o_aconstNull 485 X930 at_484 rfl <| mV 488 0 X930 q932 (rm_au101 G q933) (u16 G) all0 at_485 rfl rfl rfl lr (by decide) all0 ?_
          rintro _ _ _ _ X935 rfl _ _ _
          have f936 := (sg7 G).ext X935.old.2
          refine o_castY 491 X935 (w141 G) (Ins.self f936) at_488 rfl ?_
          intro _ X938
          refine oU 493 (l' := #[ii p1, ii p2, ii p3, ii p4, ii p5, ii 1, rr a481, ii mm482, ii po483, rr b484, rr xa1_905, rr ku3, rr ku3]) X938 at_491 rfl rfl rfl <| oa 495 X938 at_493 rfl rfl <| oa 497 X938 at_495 rfl rfl <| o_acmp 500 (same := true) X938 at_497 rfl rfl (decide_eq_true rfl) (by decide) (by decide) <| oc 501 (v := 1) X938 at_500 rfl (by decide) <| og 505 X938 at_501 (by decide) ?_
          exact o_nret (y := (1 : Int32)) (t := .boolean) X938 at_505 rfl (by decide) (by simp) (by decide) (by decide) (fun _ CC => rfl)
      · refine o_iand 467 (v := 7) X725 at_466 rfl hk728 <| mS 470 0 X725 (rm_au107 G V727 q492 q503 q514 q525 q536 q547 q558 q569 q580 q591 q602 q613 q624 q635 q646 q657 q668 q679 q690 q701 q712 q723 (by decide) (by decide) (by decide) (by decide) (by decide) (by decide) (by decide)) (u8 G) all0 at_467 rfl rfl rfl lr (by decide) all0 ?_
        rintro _ _ _ _ X939 ⟨xa1_940, _, _, rfl, q943, q944, q945, q946, q947, q948, q949, _⟩ _ _ _
        refine oU 472 (l' := #[ii p1, ii p2, ii p3, ii p4, ii p5, ii 1, rr a481, ii mm482, ii po483, rr b484, rr xa1_940, uu, uu]) X939 at_470 rfl rfl rfl <| oa 474 X939 at_472 rfl rfl <| mS 477 0 X939 (rm_au25 G q943 q944 q945 q947 q948 (by decide) (by decide) (by decide) (by decide)) (u11 G) (sS (by omega) q946 (sS (by omega) q949 all0)) at_474 rfl rfl rfl lr (by decide) all0 ?_
        rintro _ _ _ _ X951 rfl K951 _ _
        refine oU 479 (l' := #[ii p1, ii p2, ii p3, ii p4, ii p5, ii 1, rr a481, ii mm482, ii po483, rr b484, rr xa1_940, .val .null, uu]) X951 at_477 rfl rfl rfl <| oa 481 X951 at_479 rfl rfl ?_
        have f952 := q943.keep K951
        have f953 := q944.k0 K951
        have f954 := q945.k0 K951
        have f955 := q947.k0 K951
        refine mS 484 0 X951 (rm_au17 G f952 f953 f954 f955 (by decide) (by decide) (by decide) (by decide) (by omega)) (u15 G) all0 at_481 rfl rfl rfl lr (by decide) all0 ?_
        rintro _ _ _ _ X956 rfl _ _ _
        refine o_aconstNull 485 X956 at_484 rfl ?_
        have f957 := (sg9 G).ext X956.old.2
        refine mV 488 0 X956 f957 (rm_au18 G ) (u16 G) all0 at_485 rfl rfl rfl lr (by decide) all0 ?_
        rintro _ _ _ _ X958 rfl _ _ _
        refine o_castNull 491 X958 at_488 rfl <| oU 493 (l' := #[ii p1, ii p2, ii p3, ii p4, ii p5, ii 1, rr a481, ii mm482, ii po483, rr b484, rr xa1_940, .val .null, .val .null]) X958 at_491 rfl rfl rfl <| o_aload 495 X958 at_493 rfl rfl rfl <| o_aload 497 X958 at_495 rfl rfl rfl <| o_acmp 500 (same := true) X958 at_497 rfl rfl (decide_eq_true rfl) (by decide) (by decide) <| oc 501 (v := 1) X958 at_500 rfl (by decide) <| og 505 X958 at_501 (by decide) ?_
        exact o_nret (y := (1 : Int32)) (t := .boolean) X958 at_505 rfl (by decide) (by simp) (by decide) (by decide) (fun _ CC => rfl)
    · intro J
      refine oI 48 X481 at_47 rfl rfl <| oc 49 (v := 2) X481 at_48 rfl (by decide) <| o_ishr 50 (v := (p1 >>> ((2 : Int32) &&& 31))) X481 at_49 rfl rfl <| oc 51 (v := 1) X481 at_50 rfl (by decide) <| o_iand 52 (v := ((p1 >>> ((2 : Int32) &&& 31)) &&& (1 : Int32))) X481 at_51 rfl rfl ?_
      by_cases hc959 : ((p1 >>> ((2 : Int32) &&& 31)) &&& (1 : Int32)) = (0 : Int32)
      · refine oy 59 X481 at_52 (by decide) ((if0 _ _).trans (teq hc959).1) <| oc 60 (v := 0) X481 at_59 rfl (by decide) <| oS 62 (l' := #[ii p1, ii p2, ii p3, ii p4, ii p5, ii 1, rr a481, ii 0, uu, uu, uu, uu, uu]) X481 at_60 rfl rfl ?_
        exact J 0 trivial
      · refine on 55 X481 at_52 rfl ((if0 _ _).trans (feq hc959).1) <| oc 56 (v := 1) X481 at_55 rfl (by decide) <| og 60 X481 at_56 (by decide) <| oS 62 (l' := #[ii p1, ii p2, ii p3, ii p4, ii p5, ii 1, rr a481, ii 1, uu, uu, uu, uu, uu]) X481 at_60 rfl rfl ?_
        exact J 1 trivial
  · refine o_iand 3 (v := 2) X0 at_2 rfl hk1 <| oS 5 (l' := #[ii p1, ii p2, ii p3, ii p4, ii p5, ii 2, uu, uu, uu, uu, uu, uu, uu]) X0 at_3 rfl rfl <| oi 7 X0 at_5 rfl rfl <| oy 17 X0 at_7 (by decide) ((if0 _ _).trans (feq (by decide)).2) <| oi 19 X0 at_17 rfl rfl <| oc 20 (v := 1) X0 at_19 rfl (by decide) <| oY 30 X0 at_20 (by decide) (feq (by decide)).2 <| oi 32 X0 at_30 rfl rfl <| oc 33 (v := 2) X0 at_32 rfl (by decide) <| oN 36 X0 at_33 rfl (teq (by decide)).2 <| o_ldcC 38 (n := 20) (vs := own_bs ([103, 114, 111, 117, 112] : List Int32)) (z := (5 : Int32)) X0 (w86 G) (hws_str hw) (by decide) ⟨by decide, rfl⟩ (by decide) (by decide) at_36 rfl (by decide) (by decide) (by decide) (by decide) ?_
    intro a960 b960 kb960 _ h960 _ X960 E960 _ Es960 Cs960 Vs960 As960 _
    have lta960 : h960.size > a960 := Es960.lt
    have ltb960 : h960.size > b960 := As960.lt
    have := E960.1
    have Bs960 : av0 Z h960 b960 kb960 5 [.int 103, .int 114, .int 111, .int 117, .int 112] := As960
    refine oU 40 (l' := #[ii p1, ii p2, ii p3, ii p4, ii p5, ii 2, rr a960, uu, uu, uu, uu, uu, uu]) X960 at_38 rfl rfl rfl <| og 47 X960 at_40 (by decide) ?_
    refine jn 62 (fun _ => True) (fun a => #[ii p1, ii p2, ii p3, ii p4, ii p5, ii 2, rr a960, ii a, uu, uu, uu, uu, uu]) ?_ ?_
    · intro mm961 _
      show Go _ _ _ _ (State.setTop _ (mkF _ 62 #[ii p1, ii p2, ii p3, ii p4, ii p5, ii 2, rr a960, ii mm961, uu, uu, uu, uu, uu] []))
      refine oI 63 X960 at_62 rfl rfl <| o_ldcI 65 (v := (2147483647 : Int32)) X960 (w8 G) at_63 rfl <| o_iand 66 (v := (p3 &&& (2147483647 : Int32))) X960 at_65 rfl rfl <| ob 68 (v := 22) X960 at_66 rfl (by decide) ?_
      obtain ⟨po962, hpo962⟩ : ∃ z : Int32, ((p3 &&& (2147483647 : Int32)) % (22 : Int32)) = z := ⟨_, rfl⟩
      refine o_irem 69 (v := po962) X960 at_68 rfl (by decide) hpo962 <| oS 71 (l' := #[ii p1, ii p2, ii p3, ii p4, ii p5, ii 2, rr a960, ii mm961, ii po962, uu, uu, uu, uu]) X960 at_69 rfl rfl <| ob 73 (v := 22) X960 at_71 rfl (by decide) <| nP (aty := .char) 75 22 X960 (w9 G) at_73 rfl (by decide) had_char ?_
      intro _ h963 b963 k963 X963 _ _ E963 V963 A963 _ _
      have V964 : av1 Z h963 b963 k963 22 [i0, i0, i0, i0, i0, i0, i0, i0, i0, i0, i0, i0, i0, i0, i0, i0, i0, i0, i0, i0, i0, i0] := V963.pad (pad_rep [] (.int (0 : Int32)) 22)
      refine oD 76 X963 at_75 rfl rfl <| oc 77 (v := 0) X963 at_76 rfl (by decide) <| oa 79 X963 at_77 rfl rfl <| oc 80 (v := 0) X963 at_79 rfl (by decide) <| oi 82 X963 at_80 rfl rfl <| oI 83 X963 at_82 rfl rfl <| oi 85 X963 at_83 rfl rfl <| oi 87 X963 at_85 rfl rfl ?_
      have f965 := Es960.ext E963
      have f966 := Cs960.ext E963
      have f967 := Vs960.ext E963
      have f968 := Bs960.ext E963
      refine mS 90 3 X963 (rm_ch_g0 G f965 f966 f967 f968 (by decide) (by decide)) (u7 G) all0 at_87 rfl rfl rfl lr (by decide) all0 ?_
      rintro _ _ _ _ X969 ⟨xi1_970, rfl, q971⟩ K969 _ _
      have f972 := V964.k0 K969
      have f974 := A963.keep K969
      refine sC 91 0 xi1_970 X969 f972 (by decide) (lb rfl) (own_narC q971) at_90 rfl (by omega) (Or.inr (by omega)) (sx X969 f974 nc0) ?_
      rintro _ _ X973 ⟨_, _, W973⟩ _ V973
      have := W973.size
      have V975 := V973.as [.int xi1_970, i0, i0, i0, i0, i0, i0, i0, i0, i0, i0, i0, i0, i0, i0, i0, i0, i0, i0, i0, i0, i0] rfl
      refine oD 92 X973 at_91 rfl rfl <| oc 93 (v := 1) X973 at_92 rfl (by decide) <| oa 95 X973 at_93 rfl rfl <| oc 96 (v := 1) X973 at_95 rfl (by decide) <| oi 98 X973 at_96 rfl rfl <| oI 99 X973 at_98 rfl rfl <| oi 101 X973 at_99 rfl rfl <| oi 103 X973 at_101 rfl rfl ?_
      have f976 := (f965.keep K969).wr W973
      have f977 := (f966.k0 K969).oth W973 (by omega)
      have f978 := (f967.k0 K969).oth W973 (by omega)
      have f979 := (f968.k0 K969).oth W973 (by omega)
      refine mS 106 3 X973 (rm_ch_g0 G f976 f977 f978 f979 (by decide) (by decide)) (u7 G) all0 at_103 rfl rfl rfl lr (by decide) all0 ?_
      rintro _ _ _ _ X980 ⟨xi1_981, rfl, q982⟩ K980 _ _
      have f983 := V975.k0 K980
      have f985 := (f974.wr W973).keep K980
      refine sC 107 1 xi1_981 X980 f983 (by decide) (lb rfl) (own_narC q982) at_106 rfl (by omega) (Or.inr (by omega)) (sx X980 f985 nc0) ?_
      rintro _ _ X984 ⟨_, _, W984⟩ _ V984
      have := W984.size
      have V986 := V984.as [.int xi1_970, .int xi1_981, i0, i0, i0, i0, i0, i0, i0, i0, i0, i0, i0, i0, i0, i0, i0, i0, i0, i0, i0, i0] rfl
      refine oD 108 X984 at_107 rfl rfl <| oc 109 (v := 2) X984 at_108 rfl (by decide) <| oa 111 X984 at_109 rfl rfl <| oc 112 (v := 2) X984 at_111 rfl (by decide) <| oi 114 X984 at_112 rfl rfl <| oI 115 X984 at_114 rfl rfl <| oi 117 X984 at_115 rfl rfl <| oi 119 X984 at_117 rfl rfl ?_
      have f987 := (f976.keep K980).wr W984
      have f988 := (f977.k0 K980).oth W984 (by omega)
      have f989 := (f978.k0 K980).oth W984 (by omega)
      have f990 := (f979.k0 K980).oth W984 (by omega)
      refine mS 122 3 X984 (rm_ch_g0 G f987 f988 f989 f990 (by decide) (by decide)) (u7 G) all0 at_119 rfl rfl rfl lr (by decide) all0 ?_
      rintro _ _ _ _ X991 ⟨xi1_992, rfl, q993⟩ K991 _ _
      have f994 := V986.k0 K991
      have f996 := (f985.wr W984).keep K991
      refine sC 123 2 xi1_992 X991 f994 (by decide) (lb rfl) (own_narC q993) at_122 rfl (by omega) (Or.inr (by omega)) (sx X991 f996 nc0) ?_
      rintro _ _ X995 ⟨_, _, W995⟩ _ V995
      have := W995.size
      have V997 := V995.as [.int xi1_970, .int xi1_981, .int xi1_992, i0, i0, i0, i0, i0, i0, i0, i0, i0, i0, i0, i0, i0, i0, i0, i0, i0, i0, i0] rfl
      refine oD 124 X995 at_123 rfl rfl <| oc 125 (v := 3) X995 at_124 rfl (by decide) <| oa 127 X995 at_125 rfl rfl <| oc 128 (v := 3) X995 at_127 rfl (by decide) <| oi 130 X995 at_128 rfl rfl <| oI 131 X995 at_130 rfl rfl <| oi 133 X995 at_131 rfl rfl <| oi 135 X995 at_133 rfl rfl ?_
      have f998 := (f987.keep K991).wr W995
      have f999 := (f988.k0 K991).oth W995 (by omega)
      have f1000 := (f989.k0 K991).oth W995 (by omega)
      have f1001 := (f990.k0 K991).oth W995 (by omega)
      refine mS 138 3 X995 (rm_ch_g0 G f998 f999 f1000 f1001 (by decide) (by decide)) (u7 G) all0 at_135 rfl rfl rfl lr (by decide) all0 ?_
      rintro _ _ _ _ X1002 ⟨xi1_1003, rfl, q1004⟩ K1002 _ _
      have f1005 := V997.k0 K1002
      have f1007 := (f996.wr W995).keep K1002
      refine sC 139 3 xi1_1003 X1002 f1005 (by decide) (lb rfl) (own_narC q1004) at_138 rfl (by omega) (Or.inr (by omega)) (sx X1002 f1007 nc0) ?_
      rintro _ _ X1006 ⟨_, _, W1006⟩ _ V1006
      have := W1006.size
      have V1008 := V1006.as [.int xi1_970, .int xi1_981, .int xi1_992, .int xi1_1003, i0, i0, i0, i0, i0, i0, i0, i0, i0, i0, i0, i0, i0, i0, i0, i0, i0, i0] rfl
      refine oD 140 X1006 at_139 rfl rfl <| oc 141 (v := 4) X1006 at_140 rfl (by decide) <| oa 143 X1006 at_141 rfl rfl <| oc 144 (v := 4) X1006 at_143 rfl (by decide) <| oi 146 X1006 at_144 rfl rfl <| oI 147 X1006 at_146 rfl rfl <| oi 149 X1006 at_147 rfl rfl <| oi 151 X1006 at_149 rfl rfl ?_
      have f1009 := (f998.keep K1002).wr W1006
      have f1010 := (f999.k0 K1002).oth W1006 (by omega)
      have f1011 := (f1000.k0 K1002).oth W1006 (by omega)
      have f1012 := (f1001.k0 K1002).oth W1006 (by omega)
      refine mS 154 3 X1006 (rm_ch_g0 G f1009 f1010 f1011 f1012 (by decide) (by decide)) (u7 G) all0 at_151 rfl rfl rfl lr (by decide) all0 ?_
      rintro _ _ _ _ X1013 ⟨xi1_1014, rfl, q1015⟩ K1013 _ _
      have f1016 := V1008.k0 K1013
      have f1018 := (f1007.wr W1006).keep K1013
      refine sC 155 4 xi1_1014 X1013 f1016 (by decide) (lb rfl) (own_narC q1015) at_154 rfl (by omega) (Or.inr (by omega)) (sx X1013 f1018 nc0) ?_
      rintro _ _ X1017 ⟨_, _, W1017⟩ _ V1017
      have := W1017.size
      have V1019 := V1017.as [.int xi1_970, .int xi1_981, .int xi1_992, .int xi1_1003, .int xi1_1014, i0, i0, i0, i0, i0, i0, i0, i0, i0, i0, i0, i0, i0, i0, i0, i0, i0] rfl
      refine oD 156 X1017 at_155 rfl rfl <| oc 157 (v := 5) X1017 at_156 rfl (by decide) <| oa 159 X1017 at_157 rfl rfl <| oc 160 (v := 5) X1017 at_159 rfl (by decide) <| oi 162 X1017 at_160 rfl rfl <| oI 163 X1017 at_162 rfl rfl <| oi 165 X1017 at_163 rfl rfl <| oi 167 X1017 at_165 rfl rfl ?_
      have f1020 := (f1009.keep K1013).wr W1017
      have f1021 := (f1010.k0 K1013).oth W1017 (by omega)
      have f1022 := (f1011.k0 K1013).oth W1017 (by omega)
      have f1023 := (f1012.k0 K1013).oth W1017 (by omega)
      refine mS 170 3 X1017 (rm_ch_g1 G f1020 f1021 f1022 f1023 (by decide)) (u7 G) all0 at_167 rfl rfl rfl lr (by decide) all0 ?_
      rintro _ _ _ _ X1024 ⟨xi1_1025, rfl, q1026⟩ K1024 _ _
      have f1027 := V1019.k0 K1024
      have f1029 := (f1018.wr W1017).keep K1024
      refine sC 171 5 xi1_1025 X1024 f1027 (by decide) (lb rfl) (own_narC q1026) at_170 rfl (by omega) (Or.inr (by omega)) (sx X1024 f1029 nc0) ?_
      rintro _ _ X1028 ⟨_, _, W1028⟩ _ V1028
      have := W1028.size
      have V1030 := V1028.as [.int xi1_970, .int xi1_981, .int xi1_992, .int xi1_1003, .int xi1_1014, .int xi1_1025, i0, i0, i0, i0, i0, i0, i0, i0, i0, i0, i0, i0, i0, i0, i0, i0] rfl
      refine oD 172 X1028 at_171 rfl rfl <| ob 174 (v := 6) X1028 at_172 rfl (by decide) <| oa 176 X1028 at_174 rfl rfl <| ob 178 (v := 6) X1028 at_176 rfl (by decide) <| oi 180 X1028 at_178 rfl rfl <| oI 181 X1028 at_180 rfl rfl <| oi 183 X1028 at_181 rfl rfl <| oi 185 X1028 at_183 rfl rfl ?_
      have f1031 := (f1020.keep K1024).wr W1028
      have f1032 := (f1021.k0 K1024).oth W1028 (by omega)
      have f1033 := (f1022.k0 K1024).oth W1028 (by omega)
      have f1034 := (f1023.k0 K1024).oth W1028 (by omega)
      refine mS 188 3 X1028 (rm_ch_g1 G f1031 f1032 f1033 f1034 (by decide)) (u7 G) all0 at_185 rfl rfl rfl lr (by decide) all0 ?_
      rintro _ _ _ _ X1035 ⟨xi1_1036, rfl, q1037⟩ K1035 _ _
      have f1038 := V1030.k0 K1035
      have f1040 := (f1029.wr W1028).keep K1035
      refine sC 189 6 xi1_1036 X1035 f1038 (by decide) (lb rfl) (own_narC q1037) at_188 rfl (by omega) (Or.inr (by omega)) (sx X1035 f1040 nc0) ?_
      rintro _ _ X1039 ⟨_, _, W1039⟩ _ V1039
      have := W1039.size
      have V1041 := V1039.as [.int xi1_970, .int xi1_981, .int xi1_992, .int xi1_1003, .int xi1_1014, .int xi1_1025, .int xi1_1036, i0, i0, i0, i0, i0, i0, i0, i0, i0, i0, i0, i0, i0, i0, i0] rfl
      refine oD 190 X1039 at_189 rfl rfl <| ob 192 (v := 7) X1039 at_190 rfl (by decide) <| oa 194 X1039 at_192 rfl rfl <| ob 196 (v := 7) X1039 at_194 rfl (by decide) <| oi 198 X1039 at_196 rfl rfl <| oI 199 X1039 at_198 rfl rfl <| oi 201 X1039 at_199 rfl rfl <| oi 203 X1039 at_201 rfl rfl ?_
      have f1042 := (f1031.keep K1035).wr W1039
      have f1043 := (f1032.k0 K1035).oth W1039 (by omega)
      have f1044 := (f1033.k0 K1035).oth W1039 (by omega)
      have f1045 := (f1034.k0 K1035).oth W1039 (by omega)
      refine mS 206 3 X1039 (rm_ch_g1 G f1042 f1043 f1044 f1045 (by decide)) (u7 G) all0 at_203 rfl rfl rfl lr (by decide) all0 ?_
      rintro _ _ _ _ X1046 ⟨xi1_1047, rfl, q1048⟩ K1046 _ _
      have f1049 := V1041.k0 K1046
      have f1051 := (f1040.wr W1039).keep K1046
      refine sC 207 7 xi1_1047 X1046 f1049 (by decide) (lb rfl) (own_narC q1048) at_206 rfl (by omega) (Or.inr (by omega)) (sx X1046 f1051 nc0) ?_
      rintro _ _ X1050 ⟨_, _, W1050⟩ _ V1050
      have := W1050.size
      have V1052 := V1050.as [.int xi1_970, .int xi1_981, .int xi1_992, .int xi1_1003, .int xi1_1014, .int xi1_1025, .int xi1_1036, .int xi1_1047, i0, i0, i0, i0, i0, i0, i0, i0, i0, i0, i0, i0, i0, i0] rfl
      refine oD 208 X1050 at_207 rfl rfl <| ob 210 (v := 8) X1050 at_208 rfl (by decide) <| oa 212 X1050 at_210 rfl rfl <| ob 214 (v := 8) X1050 at_212 rfl (by decide) <| oi 216 X1050 at_214 rfl rfl <| oI 217 X1050 at_216 rfl rfl <| oi 219 X1050 at_217 rfl rfl <| oi 221 X1050 at_219 rfl rfl ?_
      have f1053 := (f1042.keep K1046).wr W1050
      have f1054 := (f1043.k0 K1046).oth W1050 (by omega)
      have f1055 := (f1044.k0 K1046).oth W1050 (by omega)
      have f1056 := (f1045.k0 K1046).oth W1050 (by omega)
      refine mS 224 3 X1050 (rm_ch_g1 G f1053 f1054 f1055 f1056 (by decide)) (u7 G) all0 at_221 rfl rfl rfl lr (by decide) all0 ?_
      rintro _ _ _ _ X1057 ⟨xi1_1058, rfl, q1059⟩ K1057 _ _
      have f1060 := V1052.k0 K1057
      have f1062 := (f1051.wr W1050).keep K1057
      refine sC 225 8 xi1_1058 X1057 f1060 (by decide) (lb rfl) (own_narC q1059) at_224 rfl (by omega) (Or.inr (by omega)) (sx X1057 f1062 nc0) ?_
      rintro _ _ X1061 ⟨_, _, W1061⟩ _ V1061
      have := W1061.size
      have V1063 := V1061.as [.int xi1_970, .int xi1_981, .int xi1_992, .int xi1_1003, .int xi1_1014, .int xi1_1025, .int xi1_1036, .int xi1_1047, .int xi1_1058, i0, i0, i0, i0, i0, i0, i0, i0, i0, i0, i0, i0, i0] rfl
      refine oD 226 X1061 at_225 rfl rfl <| ob 228 (v := 9) X1061 at_226 rfl (by decide) <| oa 230 X1061 at_228 rfl rfl <| ob 232 (v := 9) X1061 at_230 rfl (by decide) <| oi 234 X1061 at_232 rfl rfl <| oI 235 X1061 at_234 rfl rfl <| oi 237 X1061 at_235 rfl rfl <| oi 239 X1061 at_237 rfl rfl ?_
      have f1064 := (f1053.keep K1057).wr W1061
      have f1065 := (f1054.k0 K1057).oth W1061 (by omega)
      have f1066 := (f1055.k0 K1057).oth W1061 (by omega)
      have f1067 := (f1056.k0 K1057).oth W1061 (by omega)
      refine mS 242 3 X1061 (rm_ch_g1 G f1064 f1065 f1066 f1067 (by decide)) (u7 G) all0 at_239 rfl rfl rfl lr (by decide) all0 ?_
      rintro _ _ _ _ X1068 ⟨xi1_1069, rfl, q1070⟩ K1068 _ _
      have f1071 := V1063.k0 K1068
      have f1073 := (f1062.wr W1061).keep K1068
      refine sC 243 9 xi1_1069 X1068 f1071 (by decide) (lb rfl) (own_narC q1070) at_242 rfl (by omega) (Or.inr (by omega)) (sx X1068 f1073 nc0) ?_
      rintro _ _ X1072 ⟨_, _, W1072⟩ _ V1072
      have := W1072.size
      have V1074 := V1072.as [.int xi1_970, .int xi1_981, .int xi1_992, .int xi1_1003, .int xi1_1014, .int xi1_1025, .int xi1_1036, .int xi1_1047, .int xi1_1058, .int xi1_1069, i0, i0, i0, i0, i0, i0, i0, i0, i0, i0, i0, i0] rfl
      refine oD 244 X1072 at_243 rfl rfl <| ob 246 (v := 10) X1072 at_244 rfl (by decide) <| oa 248 X1072 at_246 rfl rfl <| ob 250 (v := 10) X1072 at_248 rfl (by decide) <| oi 252 X1072 at_250 rfl rfl <| oI 253 X1072 at_252 rfl rfl <| oi 255 X1072 at_253 rfl rfl <| oi 257 X1072 at_255 rfl rfl ?_
      have f1075 := (f1064.keep K1068).wr W1072
      have f1076 := (f1065.k0 K1068).oth W1072 (by omega)
      have f1077 := (f1066.k0 K1068).oth W1072 (by omega)
      have f1078 := (f1067.k0 K1068).oth W1072 (by omega)
      refine mS 260 3 X1072 (rm_ch_g1 G f1075 f1076 f1077 f1078 (by decide)) (u7 G) all0 at_257 rfl rfl rfl lr (by decide) all0 ?_
      rintro _ _ _ _ X1079 ⟨xi1_1080, rfl, q1081⟩ K1079 _ _
      have f1082 := V1074.k0 K1079
      have f1084 := (f1073.wr W1072).keep K1079
      refine sC 261 10 xi1_1080 X1079 f1082 (by decide) (lb rfl) (own_narC q1081) at_260 rfl (by omega) (Or.inr (by omega)) (sx X1079 f1084 nc0) ?_
      rintro _ _ X1083 ⟨_, _, W1083⟩ _ V1083
      have := W1083.size
      have V1085 := V1083.as [.int xi1_970, .int xi1_981, .int xi1_992, .int xi1_1003, .int xi1_1014, .int xi1_1025, .int xi1_1036, .int xi1_1047, .int xi1_1058, .int xi1_1069, .int xi1_1080, i0, i0, i0, i0, i0, i0, i0, i0, i0, i0, i0] rfl
      refine oD 262 X1083 at_261 rfl rfl <| ob 264 (v := 11) X1083 at_262 rfl (by decide) <| oa 266 X1083 at_264 rfl rfl <| ob 268 (v := 11) X1083 at_266 rfl (by decide) <| oi 270 X1083 at_268 rfl rfl <| oI 271 X1083 at_270 rfl rfl <| oi 273 X1083 at_271 rfl rfl <| oi 275 X1083 at_273 rfl rfl ?_
      have f1086 := (f1075.keep K1079).wr W1083
      have f1087 := (f1076.k0 K1079).oth W1083 (by omega)
      have f1088 := (f1077.k0 K1079).oth W1083 (by omega)
      have f1089 := (f1078.k0 K1079).oth W1083 (by omega)
      refine mS 278 3 X1083 (rm_ch_g1 G f1086 f1087 f1088 f1089 (by decide)) (u7 G) all0 at_275 rfl rfl rfl lr (by decide) all0 ?_
      rintro _ _ _ _ X1090 ⟨xi1_1091, rfl, q1092⟩ K1090 _ _
      have f1093 := V1085.k0 K1090
      have f1095 := (f1084.wr W1083).keep K1090
      refine sC 279 11 xi1_1091 X1090 f1093 (by decide) (lb rfl) (own_narC q1092) at_278 rfl (by omega) (Or.inr (by omega)) (sx X1090 f1095 nc0) ?_
      rintro _ _ X1094 ⟨_, _, W1094⟩ _ V1094
      have := W1094.size
      have V1096 := V1094.as [.int xi1_970, .int xi1_981, .int xi1_992, .int xi1_1003, .int xi1_1014, .int xi1_1025, .int xi1_1036, .int xi1_1047, .int xi1_1058, .int xi1_1069, .int xi1_1080, .int xi1_1091, i0, i0, i0, i0, i0, i0, i0, i0, i0, i0] rfl
      refine oD 280 X1094 at_279 rfl rfl <| ob 282 (v := 12) X1094 at_280 rfl (by decide) <| oa 284 X1094 at_282 rfl rfl <| ob 286 (v := 12) X1094 at_284 rfl (by decide) <| oi 288 X1094 at_286 rfl rfl <| oI 289 X1094 at_288 rfl rfl <| oi 291 X1094 at_289 rfl rfl <| oi 293 X1094 at_291 rfl rfl ?_
      have f1097 := (f1086.keep K1090).wr W1094
      have f1098 := (f1087.k0 K1090).oth W1094 (by omega)
      have f1099 := (f1088.k0 K1090).oth W1094 (by omega)
      have f1100 := (f1089.k0 K1090).oth W1094 (by omega)
      refine mS 296 3 X1094 (rm_ch_g1 G f1097 f1098 f1099 f1100 (by decide)) (u7 G) all0 at_293 rfl rfl rfl lr (by decide) all0 ?_
      rintro _ _ _ _ X1101 ⟨xi1_1102, rfl, q1103⟩ K1101 _ _
      have f1104 := V1096.k0 K1101
      have f1106 := (f1095.wr W1094).keep K1101
      refine sC 297 12 xi1_1102 X1101 f1104 (by decide) (lb rfl) (own_narC q1103) at_296 rfl (by omega) (Or.inr (by omega)) (sx X1101 f1106 nc0) ?_
      rintro _ _ X1105 ⟨_, _, W1105⟩ _ V1105
      have := W1105.size
      have V1107 := V1105.as [.int xi1_970, .int xi1_981, .int xi1_992, .int xi1_1003, .int xi1_1014, .int xi1_1025, .int xi1_1036, .int xi1_1047, .int xi1_1058, .int xi1_1069, .int xi1_1080, .int xi1_1091, .int xi1_1102, i0, i0, i0, i0, i0, i0, i0, i0, i0] rfl
      refine oD 298 X1105 at_297 rfl rfl <| ob 300 (v := 13) X1105 at_298 rfl (by decide) <| oa 302 X1105 at_300 rfl rfl <| ob 304 (v := 13) X1105 at_302 rfl (by decide) <| oi 306 X1105 at_304 rfl rfl <| oI 307 X1105 at_306 rfl rfl <| oi 309 X1105 at_307 rfl rfl <| oi 311 X1105 at_309 rfl rfl ?_
      have f1108 := (f1097.keep K1101).wr W1105
      have f1109 := (f1098.k0 K1101).oth W1105 (by omega)
      have f1110 := (f1099.k0 K1101).oth W1105 (by omega)
      have f1111 := (f1100.k0 K1101).oth W1105 (by omega)
      refine mS 314 3 X1105 (rm_ch_g1 G f1108 f1109 f1110 f1111 (by decide)) (u7 G) all0 at_311 rfl rfl rfl lr (by decide) all0 ?_
      rintro _ _ _ _ X1112 ⟨xi1_1113, rfl, q1114⟩ K1112 _ _
      have f1115 := V1107.k0 K1112
      have f1117 := (f1106.wr W1105).keep K1112
      refine sC 315 13 xi1_1113 X1112 f1115 (by decide) (lb rfl) (own_narC q1114) at_314 rfl (by omega) (Or.inr (by omega)) (sx X1112 f1117 nc0) ?_
      rintro _ _ X1116 ⟨_, _, W1116⟩ _ V1116
      have := W1116.size
      have V1118 := V1116.as [.int xi1_970, .int xi1_981, .int xi1_992, .int xi1_1003, .int xi1_1014, .int xi1_1025, .int xi1_1036, .int xi1_1047, .int xi1_1058, .int xi1_1069, .int xi1_1080, .int xi1_1091, .int xi1_1102, .int xi1_1113, i0, i0, i0, i0, i0, i0, i0, i0] rfl
      refine oD 316 X1116 at_315 rfl rfl <| ob 318 (v := 14) X1116 at_316 rfl (by decide) <| oa 320 X1116 at_318 rfl rfl <| ob 322 (v := 14) X1116 at_320 rfl (by decide) <| oi 324 X1116 at_322 rfl rfl <| oI 325 X1116 at_324 rfl rfl <| oi 327 X1116 at_325 rfl rfl <| oi 329 X1116 at_327 rfl rfl ?_
      have f1119 := (f1108.keep K1112).wr W1116
      have f1120 := (f1109.k0 K1112).oth W1116 (by omega)
      have f1121 := (f1110.k0 K1112).oth W1116 (by omega)
      have f1122 := (f1111.k0 K1112).oth W1116 (by omega)
      refine mS 332 3 X1116 (rm_ch_g1 G f1119 f1120 f1121 f1122 (by decide)) (u7 G) all0 at_329 rfl rfl rfl lr (by decide) all0 ?_
      rintro _ _ _ _ X1123 ⟨xi1_1124, rfl, q1125⟩ K1123 _ _
      have f1126 := V1118.k0 K1123
      have f1128 := (f1117.wr W1116).keep K1123
      refine sC 333 14 xi1_1124 X1123 f1126 (by decide) (lb rfl) (own_narC q1125) at_332 rfl (by omega) (Or.inr (by omega)) (sx X1123 f1128 nc0) ?_
      rintro _ _ X1127 ⟨_, _, W1127⟩ _ V1127
      have := W1127.size
      have V1129 := V1127.as [.int xi1_970, .int xi1_981, .int xi1_992, .int xi1_1003, .int xi1_1014, .int xi1_1025, .int xi1_1036, .int xi1_1047, .int xi1_1058, .int xi1_1069, .int xi1_1080, .int xi1_1091, .int xi1_1102, .int xi1_1113, .int xi1_1124, i0, i0, i0, i0, i0, i0, i0] rfl
      refine oD 334 X1127 at_333 rfl rfl <| ob 336 (v := 15) X1127 at_334 rfl (by decide) <| oa 338 X1127 at_336 rfl rfl <| ob 340 (v := 15) X1127 at_338 rfl (by decide) <| oi 342 X1127 at_340 rfl rfl <| oI 343 X1127 at_342 rfl rfl <| oi 345 X1127 at_343 rfl rfl <| oi 347 X1127 at_345 rfl rfl ?_
      have f1130 := (f1119.keep K1123).wr W1127
      have f1131 := (f1120.k0 K1123).oth W1127 (by omega)
      have f1132 := (f1121.k0 K1123).oth W1127 (by omega)
      have f1133 := (f1122.k0 K1123).oth W1127 (by omega)
      refine mS 350 3 X1127 (rm_ch_g1 G f1130 f1131 f1132 f1133 (by decide)) (u7 G) all0 at_347 rfl rfl rfl lr (by decide) all0 ?_
      rintro _ _ _ _ X1134 ⟨xi1_1135, rfl, q1136⟩ K1134 _ _
      have f1137 := V1129.k0 K1134
      have f1139 := (f1128.wr W1127).keep K1134
      refine sC 351 15 xi1_1135 X1134 f1137 (by decide) (lb rfl) (own_narC q1136) at_350 rfl (by omega) (Or.inr (by omega)) (sx X1134 f1139 nc0) ?_
      rintro _ _ X1138 ⟨_, _, W1138⟩ _ V1138
      have := W1138.size
      have V1140 := V1138.as [.int xi1_970, .int xi1_981, .int xi1_992, .int xi1_1003, .int xi1_1014, .int xi1_1025, .int xi1_1036, .int xi1_1047, .int xi1_1058, .int xi1_1069, .int xi1_1080, .int xi1_1091, .int xi1_1102, .int xi1_1113, .int xi1_1124, .int xi1_1135, i0, i0, i0, i0, i0, i0] rfl
      refine oD 352 X1138 at_351 rfl rfl <| ob 354 (v := 16) X1138 at_352 rfl (by decide) <| oa 356 X1138 at_354 rfl rfl <| ob 358 (v := 16) X1138 at_356 rfl (by decide) <| oi 360 X1138 at_358 rfl rfl <| oI 361 X1138 at_360 rfl rfl <| oi 363 X1138 at_361 rfl rfl <| oi 365 X1138 at_363 rfl rfl ?_
      have f1141 := (f1130.keep K1134).wr W1138
      have f1142 := (f1131.k0 K1134).oth W1138 (by omega)
      have f1143 := (f1132.k0 K1134).oth W1138 (by omega)
      have f1144 := (f1133.k0 K1134).oth W1138 (by omega)
      refine mS 368 3 X1138 (rm_ch_g1 G f1141 f1142 f1143 f1144 (by decide)) (u7 G) all0 at_365 rfl rfl rfl lr (by decide) all0 ?_
      rintro _ _ _ _ X1145 ⟨xi1_1146, rfl, q1147⟩ K1145 _ _
      have f1148 := V1140.k0 K1145
      have f1150 := (f1139.wr W1138).keep K1145
      refine sC 369 16 xi1_1146 X1145 f1148 (by decide) (lb rfl) (own_narC q1147) at_368 rfl (by omega) (Or.inr (by omega)) (sx X1145 f1150 nc0) ?_
      rintro _ _ X1149 ⟨_, _, W1149⟩ _ V1149
      have := W1149.size
      have V1151 := V1149.as [.int xi1_970, .int xi1_981, .int xi1_992, .int xi1_1003, .int xi1_1014, .int xi1_1025, .int xi1_1036, .int xi1_1047, .int xi1_1058, .int xi1_1069, .int xi1_1080, .int xi1_1091, .int xi1_1102, .int xi1_1113, .int xi1_1124, .int xi1_1135, .int xi1_1146, i0, i0, i0, i0, i0] rfl
      refine oD 370 X1149 at_369 rfl rfl <| ob 372 (v := 17) X1149 at_370 rfl (by decide) <| oa 374 X1149 at_372 rfl rfl <| ob 376 (v := 17) X1149 at_374 rfl (by decide) <| oi 378 X1149 at_376 rfl rfl <| oI 379 X1149 at_378 rfl rfl <| oi 381 X1149 at_379 rfl rfl <| oi 383 X1149 at_381 rfl rfl ?_
      have f1152 := (f1141.keep K1145).wr W1149
      have f1153 := (f1142.k0 K1145).oth W1149 (by omega)
      have f1154 := (f1143.k0 K1145).oth W1149 (by omega)
      have f1155 := (f1144.k0 K1145).oth W1149 (by omega)
      refine mS 386 3 X1149 (rm_ch_g1 G f1152 f1153 f1154 f1155 (by decide)) (u7 G) all0 at_383 rfl rfl rfl lr (by decide) all0 ?_
      rintro _ _ _ _ X1156 ⟨xi1_1157, rfl, q1158⟩ K1156 _ _
      have f1159 := V1151.k0 K1156
      have f1161 := (f1150.wr W1149).keep K1156
      refine sC 387 17 xi1_1157 X1156 f1159 (by decide) (lb rfl) (own_narC q1158) at_386 rfl (by omega) (Or.inr (by omega)) (sx X1156 f1161 nc0) ?_
      rintro _ _ X1160 ⟨_, _, W1160⟩ _ V1160
      have := W1160.size
      have V1162 := V1160.as [.int xi1_970, .int xi1_981, .int xi1_992, .int xi1_1003, .int xi1_1014, .int xi1_1025, .int xi1_1036, .int xi1_1047, .int xi1_1058, .int xi1_1069, .int xi1_1080, .int xi1_1091, .int xi1_1102, .int xi1_1113, .int xi1_1124, .int xi1_1135, .int xi1_1146, .int xi1_1157, i0, i0, i0, i0] rfl
      refine oD 388 X1160 at_387 rfl rfl <| ob 390 (v := 18) X1160 at_388 rfl (by decide) <| oa 392 X1160 at_390 rfl rfl <| ob 394 (v := 18) X1160 at_392 rfl (by decide) <| oi 396 X1160 at_394 rfl rfl <| oI 397 X1160 at_396 rfl rfl <| oi 399 X1160 at_397 rfl rfl <| oi 401 X1160 at_399 rfl rfl ?_
      have f1163 := (f1152.keep K1156).wr W1160
      have f1164 := (f1153.k0 K1156).oth W1160 (by omega)
      have f1165 := (f1154.k0 K1156).oth W1160 (by omega)
      have f1166 := (f1155.k0 K1156).oth W1160 (by omega)
      refine mS 404 3 X1160 (rm_ch_g1 G f1163 f1164 f1165 f1166 (by decide)) (u7 G) all0 at_401 rfl rfl rfl lr (by decide) all0 ?_
      rintro _ _ _ _ X1167 ⟨xi1_1168, rfl, q1169⟩ K1167 _ _
      have f1170 := V1162.k0 K1167
      have f1172 := (f1161.wr W1160).keep K1167
      refine sC 405 18 xi1_1168 X1167 f1170 (by decide) (lb rfl) (own_narC q1169) at_404 rfl (by omega) (Or.inr (by omega)) (sx X1167 f1172 nc0) ?_
      rintro _ _ X1171 ⟨_, _, W1171⟩ _ V1171
      have := W1171.size
      have V1173 := V1171.as [.int xi1_970, .int xi1_981, .int xi1_992, .int xi1_1003, .int xi1_1014, .int xi1_1025, .int xi1_1036, .int xi1_1047, .int xi1_1058, .int xi1_1069, .int xi1_1080, .int xi1_1091, .int xi1_1102, .int xi1_1113, .int xi1_1124, .int xi1_1135, .int xi1_1146, .int xi1_1157, .int xi1_1168, i0, i0, i0] rfl
      refine oD 406 X1171 at_405 rfl rfl <| ob 408 (v := 19) X1171 at_406 rfl (by decide) <| oa 410 X1171 at_408 rfl rfl <| ob 412 (v := 19) X1171 at_410 rfl (by decide) <| oi 414 X1171 at_412 rfl rfl <| oI 415 X1171 at_414 rfl rfl <| oi 417 X1171 at_415 rfl rfl <| oi 419 X1171 at_417 rfl rfl ?_
      have f1174 := (f1163.keep K1167).wr W1171
      have f1175 := (f1164.k0 K1167).oth W1171 (by omega)
      have f1176 := (f1165.k0 K1167).oth W1171 (by omega)
      have f1177 := (f1166.k0 K1167).oth W1171 (by omega)
      refine mS 422 3 X1171 (rm_ch_g1 G f1174 f1175 f1176 f1177 (by decide)) (u7 G) all0 at_419 rfl rfl rfl lr (by decide) all0 ?_
      rintro _ _ _ _ X1178 ⟨xi1_1179, rfl, q1180⟩ K1178 _ _
      have f1181 := V1173.k0 K1178
      have f1183 := (f1172.wr W1171).keep K1178
      refine sC 423 19 xi1_1179 X1178 f1181 (by decide) (lb rfl) (own_narC q1180) at_422 rfl (by omega) (Or.inr (by omega)) (sx X1178 f1183 nc0) ?_
      rintro _ _ X1182 ⟨_, _, W1182⟩ _ V1182
      have := W1182.size
      have V1184 := V1182.as [.int xi1_970, .int xi1_981, .int xi1_992, .int xi1_1003, .int xi1_1014, .int xi1_1025, .int xi1_1036, .int xi1_1047, .int xi1_1058, .int xi1_1069, .int xi1_1080, .int xi1_1091, .int xi1_1102, .int xi1_1113, .int xi1_1124, .int xi1_1135, .int xi1_1146, .int xi1_1157, .int xi1_1168, .int xi1_1179, i0, i0] rfl
      refine oD 424 X1182 at_423 rfl rfl <| ob 426 (v := 20) X1182 at_424 rfl (by decide) <| oa 428 X1182 at_426 rfl rfl <| ob 430 (v := 20) X1182 at_428 rfl (by decide) <| oi 432 X1182 at_430 rfl rfl <| oI 433 X1182 at_432 rfl rfl <| oi 435 X1182 at_433 rfl rfl <| oi 437 X1182 at_435 rfl rfl ?_
      have f1185 := (f1174.keep K1178).wr W1182
      have f1186 := (f1175.k0 K1178).oth W1182 (by omega)
      have f1187 := (f1176.k0 K1178).oth W1182 (by omega)
      have f1188 := (f1177.k0 K1178).oth W1182 (by omega)
      refine mS 440 3 X1182 (rm_ch_g1 G f1185 f1186 f1187 f1188 (by decide)) (u7 G) all0 at_437 rfl rfl rfl lr (by decide) all0 ?_
      rintro _ _ _ _ X1189 ⟨xi1_1190, rfl, q1191⟩ K1189 _ _
      have f1192 := V1184.k0 K1189
      have f1194 := (f1183.wr W1182).keep K1189
      refine sC 441 20 xi1_1190 X1189 f1192 (by decide) (lb rfl) (own_narC q1191) at_440 rfl (by omega) (Or.inr (by omega)) (sx X1189 f1194 nc0) ?_
      rintro _ _ X1193 ⟨_, _, W1193⟩ _ V1193
      have := W1193.size
      have V1195 := V1193.as [.int xi1_970, .int xi1_981, .int xi1_992, .int xi1_1003, .int xi1_1014, .int xi1_1025, .int xi1_1036, .int xi1_1047, .int xi1_1058, .int xi1_1069, .int xi1_1080, .int xi1_1091, .int xi1_1102, .int xi1_1113, .int xi1_1124, .int xi1_1135, .int xi1_1146, .int xi1_1157, .int xi1_1168, .int xi1_1179, .int xi1_1190, i0] rfl
      refine oD 442 X1193 at_441 rfl rfl <| ob 444 (v := 21) X1193 at_442 rfl (by decide) <| oa 446 X1193 at_444 rfl rfl <| ob 448 (v := 21) X1193 at_446 rfl (by decide) <| oi 450 X1193 at_448 rfl rfl <| oI 451 X1193 at_450 rfl rfl <| oi 453 X1193 at_451 rfl rfl <| oi 455 X1193 at_453 rfl rfl ?_
      have f1196 := (f1185.keep K1189).wr W1193
      have f1197 := (f1186.k0 K1189).oth W1193 (by omega)
      have f1198 := (f1187.k0 K1189).oth W1193 (by omega)
      have f1199 := (f1188.k0 K1189).oth W1193 (by omega)
      refine mS 458 3 X1193 (rm_ch_g1 G f1196 f1197 f1198 f1199 (by decide)) (u7 G) all0 at_455 rfl rfl rfl lr (by decide) all0 ?_
      rintro _ _ _ _ X1200 ⟨xi1_1201, rfl, q1202⟩ K1200 _ _
      have f1203 := V1195.k0 K1200
      have f1205 := (f1194.wr W1193).keep K1200
      refine sC 459 21 xi1_1201 X1200 f1203 (by decide) (lb rfl) (own_narC q1202) at_458 rfl (by omega) (Or.inr (by omega)) (sx X1200 f1205 nc0) ?_
      rintro _ _ X1204 ⟨_, _, W1204⟩ _ V1204
      have := W1204.size
      have V1206 := V1204.as [.int xi1_970, .int xi1_981, .int xi1_992, .int xi1_1003, .int xi1_1014, .int xi1_1025, .int xi1_1036, .int xi1_1047, .int xi1_1058, .int xi1_1069, .int xi1_1080, .int xi1_1091, .int xi1_1102, .int xi1_1113, .int xi1_1124, .int xi1_1135, .int xi1_1146, .int xi1_1157, .int xi1_1168, .int xi1_1179, .int xi1_1190, .int xi1_1201] rfl
      refine oU 461 (l' := #[ii p1, ii p2, ii p3, ii p4, ii p5, ii 2, rr a960, ii mm961, ii po962, rr b963, uu, uu, uu]) X1204 at_459 rfl rfl rfl <| oa 463 X1204 at_461 rfl rfl <| oI 464 X1204 at_463 rfl rfl <| ob 466 (v := 7) X1204 at_464 rfl (by decide) ?_
      rcases own_and7 p2 with hk1207 | hk1207 | hk1207 | hk1207 | hk1207 | hk1207 | hk1207 | hk1207
      · refine o_iand 467 (v := 0) X1204 at_466 rfl hk1207 ?_
        have f1208 := f1205.wr W1204
        refine mS 470 0 X1204 (rm_au11 G f1208 (by decide)) (u8 G) all0 at_467 rfl rfl rfl lr (by decide) all0 ?_
        rintro _ _ _ _ X1209 ⟨xa1_1210, _, _, rfl, q1213, q1214, q1215, q1216, _⟩ _ _ _
        refine oU 472 (l' := #[ii p1, ii p2, ii p3, ii p4, ii p5, ii 2, rr a960, ii mm961, ii po962, rr b963, rr xa1_1210, uu, uu]) X1209 at_470 rfl rfl rfl ?_
        have f1219 := (F_su1 G).ext X1209.old.2
        have f1220 := (sg0 G).ext X1209.old.2
        have := own_neL f1219 f1220 q1215 q1216 (by decide)
        have f1222 := (F_su2 G).ext X1209.old.2
        have f1223 := (sg1 G).ext X1209.old.2
        have := own_neL f1222 f1223 q1215 q1216 (by decide)
        have f1225 := (F_su3 G).ext X1209.old.2
        have f1226 := (sg2 G).ext X1209.old.2
        have := own_neL f1225 f1226 q1215 q1216 (by decide)
        have f1228 := (F_su4 G).ext X1209.old.2
        have f1229 := (sg3 G).ext X1209.old.2
        have := own_neL f1228 f1229 q1215 q1216 (by decide)
        refine oa 474 X1209 at_472 rfl rfl <| mS 477 0 X1209 (rm_au14 G q1213 q1214 q1215 q1216 (by decide)) (u11 G) all0 at_474 rfl rfl rfl lr (by decide) all0 ?_
        rintro _ _ _ _ X1230 rfl K1230 _ _
        refine oU 479 (l' := #[ii p1, ii p2, ii p3, ii p4, ii p5, ii 2, rr a960, ii mm961, ii po962, rr b963, rr xa1_1210, .val .null, uu]) X1230 at_477 rfl rfl rfl <| oa 481 X1230 at_479 rfl rfl ?_
        have f1231 := q1213.keep K1230
        have f1232 := q1214.k0 K1230
        have f1233 := q1215.k0 K1230
        have f1234 := q1216.k0 K1230
        refine mS 484 0 X1230 (rm_au17 G f1231 f1232 f1233 f1234 (by decide) (by decide) (by decide) (by decide) (by omega)) (u15 G) all0 at_481 rfl rfl rfl lr (by decide) all0 ?_
        rintro _ _ _ _ X1235 rfl _ _ _
        refine o_aconstNull 485 X1235 at_484 rfl ?_
        have f1236 := (sg9 G).ext X1235.old.2
        refine mV 488 0 X1235 f1236 (rm_au18 G ) (u16 G) all0 at_485 rfl rfl rfl lr (by decide) all0 ?_
        rintro _ _ _ _ X1237 rfl _ _ _
        refine o_castNull 491 X1237 at_488 rfl <| oU 493 (l' := #[ii p1, ii p2, ii p3, ii p4, ii p5, ii 2, rr a960, ii mm961, ii po962, rr b963, rr xa1_1210, .val .null, .val .null]) X1237 at_491 rfl rfl rfl <| o_aload 495 X1237 at_493 rfl rfl rfl <| o_aload 497 X1237 at_495 rfl rfl rfl <| o_acmp 500 (same := true) X1237 at_497 rfl rfl (decide_eq_true rfl) (by decide) (by decide) <| oc 501 (v := 1) X1237 at_500 rfl (by decide) <| og 505 X1237 at_501 (by decide) ?_
        exact o_nret (y := (1 : Int32)) (t := .boolean) X1237 at_505 rfl (by decide) (by simp) (by decide) (by decide) (fun _ CC => rfl)
      · refine o_iand 467 (v := 1) X1204 at_466 rfl hk1207 <| mS 470 0 X1204 (rm_au24 G V1206 q971 q982 q993 q1004 q1015 q1026 q1037 q1048 q1059 q1070 q1081 q1092 q1103 q1114 q1125 q1136 q1147 q1158 q1169 q1180 q1191 q1202 (by decide) (by decide)) (u8 G) all0 at_467 rfl rfl rfl lr (by decide) all0 ?_
        rintro _ _ _ _ X1238 ⟨xa1_1239, _, _, rfl, q1242, q1243, q1244, q1245, q1246, q1247, q1248, _⟩ _ _ _
        refine oU 472 (l' := #[ii p1, ii p2, ii p3, ii p4, ii p5, ii 2, rr a960, ii mm961, ii po962, rr b963, rr xa1_1239, uu, uu]) X1238 at_470 rfl rfl rfl <| oa 474 X1238 at_472 rfl rfl <| mS 477 0 X1238 (rm_au25 G q1242 q1243 q1244 q1246 q1247 (by decide) (by decide) (by decide) (by decide)) (u11 G) (sS (by omega) q1245 (sS (by omega) q1248 all0)) at_474 rfl rfl rfl lr (by decide) all0 ?_
        rintro _ _ _ _ X1250 rfl K1250 _ _
        refine oU 479 (l' := #[ii p1, ii p2, ii p3, ii p4, ii p5, ii 2, rr a960, ii mm961, ii po962, rr b963, rr xa1_1239, .val .null, uu]) X1250 at_477 rfl rfl rfl <| oa 481 X1250 at_479 rfl rfl ?_
        have f1251 := q1242.keep K1250
        have f1252 := q1243.k0 K1250
        have f1253 := q1244.k0 K1250
        have f1254 := q1246.k0 K1250
        refine mS 484 0 X1250 (rm_au17 G f1251 f1252 f1253 f1254 (by decide) (by decide) (by decide) (by decide) (by omega)) (u15 G) all0 at_481 rfl rfl rfl lr (by decide) all0 ?_
        rintro _ _ _ _ X1255 rfl _ _ _
        refine o_aconstNull 485 X1255 at_484 rfl ?_
        have f1256 := (sg9 G).ext X1255.old.2
        refine mV 488 0 X1255 f1256 (rm_au18 G ) (u16 G) all0 at_485 rfl rfl rfl lr (by decide) all0 ?_
        rintro _ _ _ _ X1257 rfl _ _ _
        refine o_castNull 491 X1257 at_488 rfl <| oU 493 (l' := #[ii p1, ii p2, ii p3, ii p4, ii p5, ii 2, rr a960, ii mm961, ii po962, rr b963, rr xa1_1239, .val .null, .val .null]) X1257 at_491 rfl rfl rfl <| o_aload 495 X1257 at_493 rfl rfl rfl <| o_aload 497 X1257 at_495 rfl rfl rfl <| o_acmp 500 (same := true) X1257 at_497 rfl rfl (decide_eq_true rfl) (by decide) (by decide) <| oc 501 (v := 1) X1257 at_500 rfl (by decide) <| og 505 X1257 at_501 (by decide) ?_
        exact o_nret (y := (1 : Int32)) (t := .boolean) X1257 at_505 rfl (by decide) (by simp) (by decide) (by decide) (fun _ CC => rfl)
      · refine o_iand 467 (v := 2) X1204 at_466 rfl hk1207 <| mS 470 0 X1204 (rm_au31 G V1206 q971 q982 q993 q1004 q1015 q1026 q1037 q1048 q1059 q1070 q1081 q1092 q1103 q1114 q1125 q1136 q1147 q1158 q1169 q1180 q1191 q1202 (by decide) (by decide) (by decide)) (u8 G) all0 at_467 rfl rfl rfl lr (by decide) all0 ?_
        rintro _ _ _ _ X1258 ⟨xa1_1259, _, _, rfl, q1262, q1263, q1264, q1265, q1266, q1267, q1268, _⟩ _ _ _
        refine oU 472 (l' := #[ii p1, ii p2, ii p3, ii p4, ii p5, ii 2, rr a960, ii mm961, ii po962, rr b963, rr xa1_1259, uu, uu]) X1258 at_470 rfl rfl rfl ?_
        by_cases hc1270 : (oEq [(xi1_970.toInt8.toInt32), (xi1_981.toInt8.toInt32), (xi1_992.toInt8.toInt32), (xi1_1003.toInt8.toInt32)] [117, 115, 101, 114]) = (0 : Int32)
        · by_cases hc1271 : (oEq [(xi1_970.toInt8.toInt32), (xi1_981.toInt8.toInt32), (xi1_992.toInt8.toInt32), (xi1_1003.toInt8.toInt32)] [114, 111, 108, 101]) = (0 : Int32)
          · refine oa 474 X1258 at_472 rfl rfl <| mS 477 0 X1258 (rm_au34 G q1262 q1263 q1264 q1266 q1267 hc1271 hc1270) (u11 G) (sS (by omega) q1265 (sS (by omega) q1268 all0)) at_474 rfl rfl rfl lr (by decide) all0 ?_
            rintro _ _ _ _ X1272 rfl K1272 _ _
            refine oU 479 (l' := #[ii p1, ii p2, ii p3, ii p4, ii p5, ii 2, rr a960, ii mm961, ii po962, rr b963, rr xa1_1259, .val .null, uu]) X1272 at_477 rfl rfl rfl <| oa 481 X1272 at_479 rfl rfl ?_
            have f1273 := q1262.keep K1272
            have f1274 := q1263.k0 K1272
            have f1275 := q1264.k0 K1272
            have f1276 := q1266.k0 K1272
            refine mS 484 0 X1272 (rm_au37 G f1273 f1274 f1275 f1276 hc1271 hc1270 (by omega)) (u15 G) all0 at_481 rfl rfl rfl lr (by decide) all0 ?_
            rintro _ _ _ _ X1277 rfl _ _ _
            refine o_aconstNull 485 X1277 at_484 rfl ?_
            have f1278 := (sg9 G).ext X1277.old.2
            refine mV 488 0 X1277 f1278 (rm_au18 G ) (u16 G) all0 at_485 rfl rfl rfl lr (by decide) all0 ?_
            rintro _ _ _ _ X1279 rfl _ _ _
            refine o_castNull 491 X1279 at_488 rfl <| oU 493 (l' := #[ii p1, ii p2, ii p3, ii p4, ii p5, ii 2, rr a960, ii mm961, ii po962, rr b963, rr xa1_1259, .val .null, .val .null]) X1279 at_491 rfl rfl rfl <| o_aload 495 X1279 at_493 rfl rfl rfl <| o_aload 497 X1279 at_495 rfl rfl rfl <| o_acmp 500 (same := true) X1279 at_497 rfl rfl (decide_eq_true rfl) (by decide) (by decide) <| oc 501 (v := 1) X1279 at_500 rfl (by decide) <| og 505 X1279 at_501 (by decide) ?_
            exact o_nret (y := (1 : Int32)) (t := .boolean) X1279 at_505 rfl (by decide) (by simp) (by decide) (by decide) (fun _ CC => rfl)
          · refine oa 474 X1258 at_472 rfl rfl <| mS 477 0 X1258 (rm_au39 G q1262 q1263 q1264 q1266 q1267 hc1271 hc1270) (u11 G) (sS (by omega) q1265 (sS (by omega) q1268 all0)) at_474 rfl rfl rfl lr (by decide) all0 ?_
            rintro _ _ _ _ X1280 rfl K1280 _ _
            refine oU 479 (l' := #[ii p1, ii p2, ii p3, ii p4, ii p5, ii 2, rr a960, ii mm961, ii po962, rr b963, rr xa1_1259, rr ku2, uu]) X1280 at_477 rfl rfl rfl <| oa 481 X1280 at_479 rfl rfl ?_
            have f1281 := q1262.keep K1280
            have f1282 := q1263.k0 K1280
            have f1283 := q1264.k0 K1280
            have f1284 := q1266.k0 K1280
            refine mS 484 0 X1280 (rm_au44 G f1281 f1282 f1283 f1284 hc1271 hc1270 (by omega)) (u15 G) all0 at_481 rfl rfl rfl lr (by decide) all0 ?_
            rintro _ _ _ _ X1285 ⟨_, rfl, q1287, q1288, _⟩ _ _ _
            refine o_aconstNull 485 X1285 at_484 rfl <| mV 488 0 X1285 q1287 (rm_au45 G q1288) (u16 G) all0 at_485 rfl rfl rfl lr (by decide) all0 ?_
            rintro _ _ _ _ X1290 rfl _ _ _
            have f1291 := (sg6 G).ext X1290.old.2
            refine o_castY 491 X1290 (w141 G) (Ins.self f1291) at_488 rfl ?_
            intro _ X1293
            refine oU 493 (l' := #[ii p1, ii p2, ii p3, ii p4, ii p5, ii 2, rr a960, ii mm961, ii po962, rr b963, rr xa1_1259, rr ku2, rr ku2]) X1293 at_491 rfl rfl rfl <| oa 495 X1293 at_493 rfl rfl <| oa 497 X1293 at_495 rfl rfl <| o_acmp 500 (same := true) X1293 at_497 rfl rfl (decide_eq_true rfl) (by decide) (by decide) <| oc 501 (v := 1) X1293 at_500 rfl (by decide) <| og 505 X1293 at_501 (by decide) ?_
            exact o_nret (y := (1 : Int32)) (t := .boolean) X1293 at_505 rfl (by decide) (by simp) (by decide) (by decide) (fun _ CC => rfl)
        · refine oa 474 X1258 at_472 rfl rfl <| mS 477 0 X1258 (rm_au47 G q1262 q1263 q1264 q1266 q1267 hc1270) (u11 G) (sS (by omega) q1265 (sS (by omega) q1268 all0)) at_474 rfl rfl rfl lr (by decide) all0 ?_
          rintro _ _ _ _ X1294 rfl K1294 _ _
          refine oU 479 (l' := #[ii p1, ii p2, ii p3, ii p4, ii p5, ii 2, rr a960, ii mm961, ii po962, rr b963, rr xa1_1259, rr ku1, uu]) X1294 at_477 rfl rfl rfl <| oa 481 X1294 at_479 rfl rfl ?_
          have f1295 := q1262.keep K1294
          have f1296 := q1263.k0 K1294
          have f1297 := q1264.k0 K1294
          have f1298 := q1266.k0 K1294
          refine mS 484 0 X1294 (rm_au52 G f1295 f1296 f1297 f1298 hc1270 (by omega)) (u15 G) all0 at_481 rfl rfl rfl lr (by decide) all0 ?_
          rintro _ _ _ _ X1299 ⟨_, rfl, q1301, q1302, _⟩ _ _ _
          refine o_aconstNull 485 X1299 at_484 rfl <| mV 488 0 X1299 q1301 (rm_au53 G q1302) (u16 G) all0 at_485 rfl rfl rfl lr (by decide) all0 ?_
          rintro _ _ _ _ X1304 rfl _ _ _
          have f1305 := (sg5 G).ext X1304.old.2
          refine o_castY 491 X1304 (w141 G) (Ins.self f1305) at_488 rfl ?_
          intro _ X1307
          refine oU 493 (l' := #[ii p1, ii p2, ii p3, ii p4, ii p5, ii 2, rr a960, ii mm961, ii po962, rr b963, rr xa1_1259, rr ku1, rr ku1]) X1307 at_491 rfl rfl rfl <| oa 495 X1307 at_493 rfl rfl <| oa 497 X1307 at_495 rfl rfl <| o_acmp 500 (same := true) X1307 at_497 rfl rfl (decide_eq_true rfl) (by decide) (by decide) <| oc 501 (v := 1) X1307 at_500 rfl (by decide) <| og 505 X1307 at_501 (by decide) ?_
          exact o_nret (y := (1 : Int32)) (t := .boolean) X1307 at_505 rfl (by decide) (by simp) (by decide) (by decide) (fun _ CC => rfl)
      · refine o_iand 467 (v := 3) X1204 at_466 rfl hk1207 <| mS 470 0 X1204 (rm_au59 G V1206 q971 q982 q993 q1004 q1015 q1026 q1037 q1048 q1059 q1070 q1081 q1092 q1103 q1114 q1125 q1136 q1147 q1158 q1169 q1180 q1191 q1202 (by decide) (by decide) (by decide) (by decide)) (u8 G) all0 at_467 rfl rfl rfl lr (by decide) all0 ?_
        rintro _ _ _ _ X1308 ⟨xa1_1309, _, _, rfl, q1312, q1313, q1314, q1315, q1316, q1317, q1318, _⟩ _ _ _
        refine oU 472 (l' := #[ii p1, ii p2, ii p3, ii p4, ii p5, ii 2, rr a960, ii mm961, ii po962, rr b963, rr xa1_1309, uu, uu]) X1308 at_470 rfl rfl rfl ?_
        by_cases hc1320 : (oEq [(xi1_970.toInt8.toInt32), (xi1_981.toInt8.toInt32), (xi1_992.toInt8.toInt32), (xi1_1003.toInt8.toInt32), (xi1_1014.toInt8.toInt32)] [103, 114, 111, 117, 112]) = (0 : Int32)
        · refine oa 474 X1308 at_472 rfl rfl <| mS 477 0 X1308 (rm_au61 G q1312 q1313 q1314 q1316 q1317 hc1320) (u11 G) (sS (by omega) q1315 (sS (by omega) q1318 all0)) at_474 rfl rfl rfl lr (by decide) all0 ?_
          rintro _ _ _ _ X1321 rfl K1321 _ _
          refine oU 479 (l' := #[ii p1, ii p2, ii p3, ii p4, ii p5, ii 2, rr a960, ii mm961, ii po962, rr b963, rr xa1_1309, .val .null, uu]) X1321 at_477 rfl rfl rfl <| oa 481 X1321 at_479 rfl rfl ?_
          have f1322 := q1312.keep K1321
          have f1323 := q1313.k0 K1321
          have f1324 := q1314.k0 K1321
          have f1325 := q1316.k0 K1321
          refine mS 484 0 X1321 (rm_au63 G f1322 f1323 f1324 f1325 hc1320 (by omega)) (u15 G) all0 at_481 rfl rfl rfl lr (by decide) all0 ?_
          rintro _ _ _ _ X1326 rfl _ _ _
          refine o_aconstNull 485 X1326 at_484 rfl ?_
          have f1327 := (sg9 G).ext X1326.old.2
          refine mV 488 0 X1326 f1327 (rm_au18 G ) (u16 G) all0 at_485 rfl rfl rfl lr (by decide) all0 ?_
          rintro _ _ _ _ X1328 rfl _ _ _
          refine o_castNull 491 X1328 at_488 rfl <| oU 493 (l' := #[ii p1, ii p2, ii p3, ii p4, ii p5, ii 2, rr a960, ii mm961, ii po962, rr b963, rr xa1_1309, .val .null, .val .null]) X1328 at_491 rfl rfl rfl <| o_aload 495 X1328 at_493 rfl rfl rfl <| o_aload 497 X1328 at_495 rfl rfl rfl <| o_acmp 500 (same := true) X1328 at_497 rfl rfl (decide_eq_true rfl) (by decide) (by decide) <| oc 501 (v := 1) X1328 at_500 rfl (by decide) <| og 505 X1328 at_501 (by decide) ?_
          exact o_nret (y := (1 : Int32)) (t := .boolean) X1328 at_505 rfl (by decide) (by simp) (by decide) (by decide) (fun _ CC => rfl)
        · refine oa 474 X1308 at_472 rfl rfl <| mS 477 0 X1308 (rm_au65 G q1312 q1313 q1314 q1316 q1317 hc1320) (u11 G) (sS (by omega) q1315 (sS (by omega) q1318 all0)) at_474 rfl rfl rfl lr (by decide) all0 ?_
          rintro _ _ _ _ X1329 rfl K1329 _ _
          refine oU 479 (l' := #[ii p1, ii p2, ii p3, ii p4, ii p5, ii 2, rr a960, ii mm961, ii po962, rr b963, rr xa1_1309, rr ku4, uu]) X1329 at_477 rfl rfl rfl <| oa 481 X1329 at_479 rfl rfl ?_
          have f1330 := q1312.keep K1329
          have f1331 := q1313.k0 K1329
          have f1332 := q1314.k0 K1329
          have f1333 := q1316.k0 K1329
          refine mS 484 0 X1329 (rm_au70 G f1330 f1331 f1332 f1333 hc1320 (by omega)) (u15 G) all0 at_481 rfl rfl rfl lr (by decide) all0 ?_
          rintro _ _ _ _ X1334 ⟨_, rfl, q1336, q1337, _⟩ _ _ _
          refine o_aconstNull 485 X1334 at_484 rfl <| mV 488 0 X1334 q1336 (rm_au71 G q1337) (u16 G) all0 at_485 rfl rfl rfl lr (by decide) all0 ?_
          rintro _ _ _ _ X1339 rfl _ _ _
          have f1340 := (sg8 G).ext X1339.old.2
          refine o_castY 491 X1339 (w141 G) (Ins.self f1340) at_488 rfl ?_
          intro _ X1342
          refine oU 493 (l' := #[ii p1, ii p2, ii p3, ii p4, ii p5, ii 2, rr a960, ii mm961, ii po962, rr b963, rr xa1_1309, rr ku4, rr ku4]) X1342 at_491 rfl rfl rfl <| oa 495 X1342 at_493 rfl rfl <| oa 497 X1342 at_495 rfl rfl <| o_acmp 500 (same := true) X1342 at_497 rfl rfl (decide_eq_true rfl) (by decide) (by decide) <| oc 501 (v := 1) X1342 at_500 rfl (by decide) <| og 505 X1342 at_501 (by decide) ?_
          exact o_nret (y := (1 : Int32)) (t := .boolean) X1342 at_505 rfl (by decide) (by simp) (by decide) (by decide) (fun _ CC => rfl)
      · refine o_iand 467 (v := 4) X1204 at_466 rfl hk1207 <| mS 470 0 X1204 (rm_au77 G V1206 q971 q982 q993 q1004 q1015 q1026 q1037 q1048 q1059 q1070 q1081 q1092 q1103 q1114 q1125 q1136 q1147 q1158 q1169 q1180 q1191 q1202 (by decide) (by decide) (by decide) (by decide) (by decide)) (u8 G) all0 at_467 rfl rfl rfl lr (by decide) all0 ?_
        rintro _ _ _ _ X1343 ⟨xa1_1344, _, _, rfl, q1347, q1348, q1349, q1350, q1351, q1352, q1353, _⟩ _ _ _
        refine oU 472 (l' := #[ii p1, ii p2, ii p3, ii p4, ii p5, ii 2, rr a960, ii mm961, ii po962, rr b963, rr xa1_1344, uu, uu]) X1343 at_470 rfl rfl rfl <| oa 474 X1343 at_472 rfl rfl <| mS 477 0 X1343 (rm_au25 G q1347 q1348 q1349 q1351 q1352 (by decide) (by decide) (by decide) (by decide)) (u11 G) (sS (by omega) q1350 (sS (by omega) q1353 all0)) at_474 rfl rfl rfl lr (by decide) all0 ?_
        rintro _ _ _ _ X1355 rfl K1355 _ _
        refine oU 479 (l' := #[ii p1, ii p2, ii p3, ii p4, ii p5, ii 2, rr a960, ii mm961, ii po962, rr b963, rr xa1_1344, .val .null, uu]) X1355 at_477 rfl rfl rfl <| oa 481 X1355 at_479 rfl rfl ?_
        have f1356 := q1347.keep K1355
        have f1357 := q1348.k0 K1355
        have f1358 := q1349.k0 K1355
        have f1359 := q1351.k0 K1355
        refine mS 484 0 X1355 (rm_au17 G f1356 f1357 f1358 f1359 (by decide) (by decide) (by decide) (by decide) (by omega)) (u15 G) all0 at_481 rfl rfl rfl lr (by decide) all0 ?_
        rintro _ _ _ _ X1360 rfl _ _ _
        refine o_aconstNull 485 X1360 at_484 rfl ?_
        have f1361 := (sg9 G).ext X1360.old.2
        refine mV 488 0 X1360 f1361 (rm_au18 G ) (u16 G) all0 at_485 rfl rfl rfl lr (by decide) all0 ?_
        rintro _ _ _ _ X1362 rfl _ _ _
        refine o_castNull 491 X1362 at_488 rfl <| oU 493 (l' := #[ii p1, ii p2, ii p3, ii p4, ii p5, ii 2, rr a960, ii mm961, ii po962, rr b963, rr xa1_1344, .val .null, .val .null]) X1362 at_491 rfl rfl rfl <| o_aload 495 X1362 at_493 rfl rfl rfl <| o_aload 497 X1362 at_495 rfl rfl rfl <| o_acmp 500 (same := true) X1362 at_497 rfl rfl (decide_eq_true rfl) (by decide) (by decide) <| oc 501 (v := 1) X1362 at_500 rfl (by decide) <| og 505 X1362 at_501 (by decide) ?_
        exact o_nret (y := (1 : Int32)) (t := .boolean) X1362 at_505 rfl (by decide) (by simp) (by decide) (by decide) (fun _ CC => rfl)
      · refine o_iand 467 (v := 5) X1204 at_466 rfl hk1207 <| mS 470 0 X1204 (rm_au83 G V1206 q971 q982 q993 q1004 q1015 q1026 q1037 q1048 q1059 q1070 q1081 q1092 q1103 q1114 q1125 q1136 q1147 q1158 q1169 q1180 q1191 q1202 (by decide) (by decide) (by decide) (by decide) (by decide) (by decide)) (u8 G) all0 at_467 rfl rfl rfl lr (by decide) all0 ?_
        rintro _ _ _ _ X1363 ⟨xa1_1364, _, _, rfl, q1367, q1368, q1369, q1370, q1371, q1372, q1373, _⟩ _ _ _
        refine oU 472 (l' := #[ii p1, ii p2, ii p3, ii p4, ii p5, ii 2, rr a960, ii mm961, ii po962, rr b963, rr xa1_1364, uu, uu]) X1363 at_470 rfl rfl rfl <| oa 474 X1363 at_472 rfl rfl <| mS 477 0 X1363 (rm_au25 G q1367 q1368 q1369 q1371 q1372 (by decide) (by decide) (by decide) (by decide)) (u11 G) (sS (by omega) q1370 (sS (by omega) q1373 all0)) at_474 rfl rfl rfl lr (by decide) all0 ?_
        rintro _ _ _ _ X1375 rfl K1375 _ _
        refine oU 479 (l' := #[ii p1, ii p2, ii p3, ii p4, ii p5, ii 2, rr a960, ii mm961, ii po962, rr b963, rr xa1_1364, .val .null, uu]) X1375 at_477 rfl rfl rfl <| oa 481 X1375 at_479 rfl rfl ?_
        have f1376 := q1367.keep K1375
        have f1377 := q1368.k0 K1375
        have f1378 := q1369.k0 K1375
        have f1379 := q1371.k0 K1375
        refine mS 484 0 X1375 (rm_au17 G f1376 f1377 f1378 f1379 (by decide) (by decide) (by decide) (by decide) (by omega)) (u15 G) all0 at_481 rfl rfl rfl lr (by decide) all0 ?_
        rintro _ _ _ _ X1380 rfl _ _ _
        refine o_aconstNull 485 X1380 at_484 rfl ?_
        have f1381 := (sg9 G).ext X1380.old.2
        refine mV 488 0 X1380 f1381 (rm_au18 G ) (u16 G) all0 at_485 rfl rfl rfl lr (by decide) all0 ?_
        rintro _ _ _ _ X1382 rfl _ _ _
        refine o_castNull 491 X1382 at_488 rfl <| oU 493 (l' := #[ii p1, ii p2, ii p3, ii p4, ii p5, ii 2, rr a960, ii mm961, ii po962, rr b963, rr xa1_1364, .val .null, .val .null]) X1382 at_491 rfl rfl rfl <| o_aload 495 X1382 at_493 rfl rfl rfl <| o_aload 497 X1382 at_495 rfl rfl rfl <| o_acmp 500 (same := true) X1382 at_497 rfl rfl (decide_eq_true rfl) (by decide) (by decide) <| oc 501 (v := 1) X1382 at_500 rfl (by decide) <| og 505 X1382 at_501 (by decide) ?_
        exact o_nret (y := (1 : Int32)) (t := .boolean) X1382 at_505 rfl (by decide) (by simp) (by decide) (by decide) (fun _ CC => rfl)
      · refine o_iand 467 (v := 6) X1204 at_466 rfl hk1207 <| mS 470 0 X1204 (rm_au89 G V1206 q971 q982 q993 q1004 q1015 q1026 q1037 q1048 q1059 q1070 q1081 q1092 q1103 q1114 q1125 q1136 q1147 q1158 q1169 q1180 q1191 q1202 (by decide) (by decide) (by decide) (by decide) (by decide) (by decide) (by decide)) (u8 G) all0 at_467 rfl rfl rfl lr (by decide) all0 ?_
        rintro _ _ _ _ X1383 ⟨xa1_1384, _, _, rfl, q1387, q1388, q1389, q1390, q1391, q1392, q1393, _⟩ _ _ _
        refine oU 472 (l' := #[ii p1, ii p2, ii p3, ii p4, ii p5, ii 2, rr a960, ii mm961, ii po962, rr b963, rr xa1_1384, uu, uu]) X1383 at_470 rfl rfl rfl ?_
        by_cases hc1395 : (oEq [(xi1_970.toInt8.toInt32), (xi1_981.toInt8.toInt32), (xi1_992.toInt8.toInt32), (xi1_1003.toInt8.toInt32), (xi1_1014.toInt8.toInt32), (xi1_1025.toInt8.toInt32), (xi1_1036.toInt8.toInt32), (xi1_1047.toInt8.toInt32), (xi1_1058.toInt8.toInt32), (xi1_1069.toInt8.toInt32), (xi1_1080.toInt8.toInt32), (xi1_1091.toInt8.toInt32), (xi1_1102.toInt8.toInt32), (xi1_1113.toInt8.toInt32), (xi1_1124.toInt8.toInt32), (xi1_1135.toInt8.toInt32), (xi1_1146.toInt8.toInt32), (xi1_1157.toInt8.toInt32), (xi1_1168.toInt8.toInt32), (xi1_1179.toInt8.toInt32), (xi1_1190.toInt8.toInt32)] [114, 111, 108, 101, 45, 97, 110, 100, 45, 115, 117, 98, 111, 114, 100, 105, 110, 97, 116, 101, 115]) = (0 : Int32)
        · refine oa 474 X1383 at_472 rfl rfl <| mS 477 0 X1383 (rm_au91 G q1387 q1388 q1389 q1391 q1392 hc1395) (u11 G) (sS (by omega) q1390 (sS (by omega) q1393 all0)) at_474 rfl rfl rfl lr (by decide) all0 ?_
          rintro _ _ _ _ X1396 rfl K1396 _ _
          refine oU 479 (l' := #[ii p1, ii p2, ii p3, ii p4, ii p5, ii 2, rr a960, ii mm961, ii po962, rr b963, rr xa1_1384, .val .null, uu]) X1396 at_477 rfl rfl rfl <| oa 481 X1396 at_479 rfl rfl ?_
          have f1397 := q1387.keep K1396
          have f1398 := q1388.k0 K1396
          have f1399 := q1389.k0 K1396
          have f1400 := q1391.k0 K1396
          refine mS 484 0 X1396 (rm_au93 G f1397 f1398 f1399 f1400 hc1395 (by omega)) (u15 G) all0 at_481 rfl rfl rfl lr (by decide) all0 ?_
          rintro _ _ _ _ X1401 rfl _ _ _
          refine o_aconstNull 485 X1401 at_484 rfl ?_
          have f1402 := (sg9 G).ext X1401.old.2
          refine mV 488 0 X1401 f1402 (rm_au18 G ) (u16 G) all0 at_485 rfl rfl rfl lr (by decide) all0 ?_
          rintro _ _ _ _ X1403 rfl _ _ _
          refine o_castNull 491 X1403 at_488 rfl <| oU 493 (l' := #[ii p1, ii p2, ii p3, ii p4, ii p5, ii 2, rr a960, ii mm961, ii po962, rr b963, rr xa1_1384, .val .null, .val .null]) X1403 at_491 rfl rfl rfl <| o_aload 495 X1403 at_493 rfl rfl rfl <| o_aload 497 X1403 at_495 rfl rfl rfl <| o_acmp 500 (same := true) X1403 at_497 rfl rfl (decide_eq_true rfl) (by decide) (by decide) <| oc 501 (v := 1) X1403 at_500 rfl (by decide) <| og 505 X1403 at_501 (by decide) ?_
          exact o_nret (y := (1 : Int32)) (t := .boolean) X1403 at_505 rfl (by decide) (by simp) (by decide) (by decide) (fun _ CC => rfl)
        · refine oa 474 X1383 at_472 rfl rfl <| mS 477 0 X1383 (rm_au95 G q1387 q1388 q1389 q1391 q1392 hc1395) (u11 G) (sS (by omega) q1390 (sS (by omega) q1393 all0)) at_474 rfl rfl rfl lr (by decide) all0 ?_
          rintro _ _ _ _ X1404 rfl K1404 _ _
          refine oU 479 (l' := #[ii p1, ii p2, ii p3, ii p4, ii p5, ii 2, rr a960, ii mm961, ii po962, rr b963, rr xa1_1384, rr ku3, uu]) X1404 at_477 rfl rfl rfl <| oa 481 X1404 at_479 rfl rfl ?_
          have f1405 := q1387.keep K1404
          have f1406 := q1388.k0 K1404
          have f1407 := q1389.k0 K1404
          have f1408 := q1391.k0 K1404
          refine mS 484 0 X1404 (rm_au100 G f1405 f1406 f1407 f1408 hc1395 (by omega)) (u15 G) all0 at_481 rfl rfl rfl lr (by decide) all0 ?_
          rintro _ _ _ _ X1409 ⟨_, rfl, q1411, q1412, _⟩ _ _ _
          refine o_aconstNull 485 X1409 at_484 rfl <| mV 488 0 X1409 q1411 (rm_au101 G q1412) (u16 G) all0 at_485 rfl rfl rfl lr (by decide) all0 ?_
          rintro _ _ _ _ X1414 rfl _ _ _
          have f1415 := (sg7 G).ext X1414.old.2
          refine o_castY 491 X1414 (w141 G) (Ins.self f1415) at_488 rfl ?_
          intro _ X1417
          refine oU 493 (l' := #[ii p1, ii p2, ii p3, ii p4, ii p5, ii 2, rr a960, ii mm961, ii po962, rr b963, rr xa1_1384, rr ku3, rr ku3]) X1417 at_491 rfl rfl rfl <| oa 495 X1417 at_493 rfl rfl <| oa 497 X1417 at_495 rfl rfl <| o_acmp 500 (same := true) X1417 at_497 rfl rfl (decide_eq_true rfl) (by decide) (by decide) <| oc 501 (v := 1) X1417 at_500 rfl (by decide) <| og 505 X1417 at_501 (by decide) ?_
          exact o_nret (y := (1 : Int32)) (t := .boolean) X1417 at_505 rfl (by decide) (by simp) (by decide) (by decide) (fun _ CC => rfl)
      · refine o_iand 467 (v := 7) X1204 at_466 rfl hk1207 <| mS 470 0 X1204 (rm_au107 G V1206 q971 q982 q993 q1004 q1015 q1026 q1037 q1048 q1059 q1070 q1081 q1092 q1103 q1114 q1125 q1136 q1147 q1158 q1169 q1180 q1191 q1202 (by decide) (by decide) (by decide) (by decide) (by decide) (by decide) (by decide)) (u8 G) all0 at_467 rfl rfl rfl lr (by decide) all0 ?_
        rintro _ _ _ _ X1418 ⟨xa1_1419, _, _, rfl, q1422, q1423, q1424, q1425, q1426, q1427, q1428, _⟩ _ _ _
        refine oU 472 (l' := #[ii p1, ii p2, ii p3, ii p4, ii p5, ii 2, rr a960, ii mm961, ii po962, rr b963, rr xa1_1419, uu, uu]) X1418 at_470 rfl rfl rfl <| oa 474 X1418 at_472 rfl rfl <| mS 477 0 X1418 (rm_au25 G q1422 q1423 q1424 q1426 q1427 (by decide) (by decide) (by decide) (by decide)) (u11 G) (sS (by omega) q1425 (sS (by omega) q1428 all0)) at_474 rfl rfl rfl lr (by decide) all0 ?_
        rintro _ _ _ _ X1430 rfl K1430 _ _
        refine oU 479 (l' := #[ii p1, ii p2, ii p3, ii p4, ii p5, ii 2, rr a960, ii mm961, ii po962, rr b963, rr xa1_1419, .val .null, uu]) X1430 at_477 rfl rfl rfl <| oa 481 X1430 at_479 rfl rfl ?_
        have f1431 := q1422.keep K1430
        have f1432 := q1423.k0 K1430
        have f1433 := q1424.k0 K1430
        have f1434 := q1426.k0 K1430
        refine mS 484 0 X1430 (rm_au17 G f1431 f1432 f1433 f1434 (by decide) (by decide) (by decide) (by decide) (by omega)) (u15 G) all0 at_481 rfl rfl rfl lr (by decide) all0 ?_
        rintro _ _ _ _ X1435 rfl _ _ _
        refine o_aconstNull 485 X1435 at_484 rfl ?_
        have f1436 := (sg9 G).ext X1435.old.2
        refine mV 488 0 X1435 f1436 (rm_au18 G ) (u16 G) all0 at_485 rfl rfl rfl lr (by decide) all0 ?_
        rintro _ _ _ _ X1437 rfl _ _ _
        refine o_castNull 491 X1437 at_488 rfl <| oU 493 (l' := #[ii p1, ii p2, ii p3, ii p4, ii p5, ii 2, rr a960, ii mm961, ii po962, rr b963, rr xa1_1419, .val .null, .val .null]) X1437 at_491 rfl rfl rfl <| o_aload 495 X1437 at_493 rfl rfl rfl <| o_aload 497 X1437 at_495 rfl rfl rfl <| o_acmp 500 (same := true) X1437 at_497 rfl rfl (decide_eq_true rfl) (by decide) (by decide) <| oc 501 (v := 1) X1437 at_500 rfl (by decide) <| og 505 X1437 at_501 (by decide) ?_
        exact o_nret (y := (1 : Int32)) (t := .boolean) X1437 at_505 rfl (by decide) (by simp) (by decide) (by decide) (fun _ CC => rfl)
    · intro J
      refine oI 48 X960 at_47 rfl rfl <| oc 49 (v := 2) X960 at_48 rfl (by decide) <| o_ishr 50 (v := (p1 >>> ((2 : Int32) &&& 31))) X960 at_49 rfl rfl <| oc 51 (v := 1) X960 at_50 rfl (by decide) <| o_iand 52 (v := ((p1 >>> ((2 : Int32) &&& 31)) &&& (1 : Int32))) X960 at_51 rfl rfl ?_
      by_cases hc1438 : ((p1 >>> ((2 : Int32) &&& 31)) &&& (1 : Int32)) = (0 : Int32)
      · refine oy 59 X960 at_52 (by decide) ((if0 _ _).trans (teq hc1438).1) <| oc 60 (v := 0) X960 at_59 rfl (by decide) <| oS 62 (l' := #[ii p1, ii p2, ii p3, ii p4, ii p5, ii 2, rr a960, ii 0, uu, uu, uu, uu, uu]) X960 at_60 rfl rfl ?_
        exact J 0 trivial
      · refine on 55 X960 at_52 rfl ((if0 _ _).trans (feq hc1438).1) <| oc 56 (v := 1) X960 at_55 rfl (by decide) <| og 60 X960 at_56 (by decide) <| oS 62 (l' := #[ii p1, ii p2, ii p3, ii p4, ii p5, ii 2, rr a960, ii 1, uu, uu, uu, uu, uu]) X960 at_60 rfl rfl ?_
        exact J 1 trivial
  · refine o_iand 3 (v := 3) X0 at_2 rfl hk1 <| oS 5 (l' := #[ii p1, ii p2, ii p3, ii p4, ii p5, ii 3, uu, uu, uu, uu, uu, uu, uu]) X0 at_3 rfl rfl <| oi 7 X0 at_5 rfl rfl <| oy 17 X0 at_7 (by decide) ((if0 _ _).trans (feq (by decide)).2) <| oi 19 X0 at_17 rfl rfl <| oc 20 (v := 1) X0 at_19 rfl (by decide) <| oY 30 X0 at_20 (by decide) (feq (by decide)).2 <| oi 32 X0 at_30 rfl rfl <| oc 33 (v := 2) X0 at_32 rfl (by decide) <| oY 43 X0 at_33 (by decide) (feq (by decide)).2 <| o_ldcC 45 (n := 84) (vs := own_bs ([114, 111, 108, 101, 45, 97, 110, 100, 45, 115, 117, 98, 111, 114, 100, 105, 110, 97, 116, 101, 115] : List Int32)) (z := (21 : Int32)) X0 (w87 G) (hws_str hw) (by decide) ⟨by decide, rfl⟩ (by decide) (by decide) at_43 rfl (by decide) (by decide) (by decide) (by decide) ?_
    intro a1439 b1439 kb1439 _ h1439 _ X1439 E1439 _ Es1439 Cs1439 Vs1439 As1439 _
    have lta1439 : h1439.size > a1439 := Es1439.lt
    have ltb1439 : h1439.size > b1439 := As1439.lt
    have := E1439.1
    have Bs1439 : av0 Z h1439 b1439 kb1439 21 [.int 114, .int 111, .int 108, .int 101, .int 45, .int 97, .int 110, .int 100, .int 45, .int 115, .int 117, .int 98, .int 111, .int 114, .int 100, .int 105, .int 110, .int 97, .int 116, .int 101, .int 115] := As1439
    refine oU 47 (l' := #[ii p1, ii p2, ii p3, ii p4, ii p5, ii 3, rr a1439, uu, uu, uu, uu, uu, uu]) X1439 at_45 rfl rfl rfl ?_
    refine jn 62 (fun _ => True) (fun a => #[ii p1, ii p2, ii p3, ii p4, ii p5, ii 3, rr a1439, ii a, uu, uu, uu, uu, uu]) ?_ ?_
    · intro mm1440 _
      show Go _ _ _ _ (State.setTop _ (mkF _ 62 #[ii p1, ii p2, ii p3, ii p4, ii p5, ii 3, rr a1439, ii mm1440, uu, uu, uu, uu, uu] []))
      refine oI 63 X1439 at_62 rfl rfl <| o_ldcI 65 (v := (2147483647 : Int32)) X1439 (w8 G) at_63 rfl <| o_iand 66 (v := (p3 &&& (2147483647 : Int32))) X1439 at_65 rfl rfl <| ob 68 (v := 22) X1439 at_66 rfl (by decide) ?_
      obtain ⟨po1441, hpo1441⟩ : ∃ z : Int32, ((p3 &&& (2147483647 : Int32)) % (22 : Int32)) = z := ⟨_, rfl⟩
      refine o_irem 69 (v := po1441) X1439 at_68 rfl (by decide) hpo1441 <| oS 71 (l' := #[ii p1, ii p2, ii p3, ii p4, ii p5, ii 3, rr a1439, ii mm1440, ii po1441, uu, uu, uu, uu]) X1439 at_69 rfl rfl <| ob 73 (v := 22) X1439 at_71 rfl (by decide) <| nP (aty := .char) 75 22 X1439 (w9 G) at_73 rfl (by decide) had_char ?_
      intro _ h1442 b1442 k1442 X1442 _ _ E1442 V1442 A1442 _ _
      have V1443 : av1 Z h1442 b1442 k1442 22 [i0, i0, i0, i0, i0, i0, i0, i0, i0, i0, i0, i0, i0, i0, i0, i0, i0, i0, i0, i0, i0, i0] := V1442.pad (pad_rep [] (.int (0 : Int32)) 22)
      refine oD 76 X1442 at_75 rfl rfl <| oc 77 (v := 0) X1442 at_76 rfl (by decide) <| oa 79 X1442 at_77 rfl rfl <| oc 80 (v := 0) X1442 at_79 rfl (by decide) <| oi 82 X1442 at_80 rfl rfl <| oI 83 X1442 at_82 rfl rfl <| oi 85 X1442 at_83 rfl rfl <| oi 87 X1442 at_85 rfl rfl ?_
      have f1444 := Es1439.ext E1442
      have f1445 := Cs1439.ext E1442
      have f1446 := Vs1439.ext E1442
      have f1447 := Bs1439.ext E1442
      refine mS 90 3 X1442 (rm_ch_a0 G f1444 f1445 f1446 f1447 (by decide) (by decide)) (u7 G) all0 at_87 rfl rfl rfl lr (by decide) all0 ?_
      rintro _ _ _ _ X1448 ⟨xi1_1449, rfl, q1450⟩ K1448 _ _
      have f1451 := V1443.k0 K1448
      have f1453 := A1442.keep K1448
      refine sC 91 0 xi1_1449 X1448 f1451 (by decide) (lb rfl) (own_narC q1450) at_90 rfl (by omega) (Or.inr (by omega)) (sx X1448 f1453 nc0) ?_
      rintro _ _ X1452 ⟨_, _, W1452⟩ _ V1452
      have := W1452.size
      have V1454 := V1452.as [.int xi1_1449, i0, i0, i0, i0, i0, i0, i0, i0, i0, i0, i0, i0, i0, i0, i0, i0, i0, i0, i0, i0, i0] rfl
      refine oD 92 X1452 at_91 rfl rfl <| oc 93 (v := 1) X1452 at_92 rfl (by decide) <| oa 95 X1452 at_93 rfl rfl <| oc 96 (v := 1) X1452 at_95 rfl (by decide) <| oi 98 X1452 at_96 rfl rfl <| oI 99 X1452 at_98 rfl rfl <| oi 101 X1452 at_99 rfl rfl <| oi 103 X1452 at_101 rfl rfl ?_
      have f1455 := (f1444.keep K1448).wr W1452
      have f1456 := (f1445.k0 K1448).oth W1452 (by omega)
      have f1457 := (f1446.k0 K1448).oth W1452 (by omega)
      have f1458 := (f1447.k0 K1448).oth W1452 (by omega)
      refine mS 106 3 X1452 (rm_ch_a0 G f1455 f1456 f1457 f1458 (by decide) (by decide)) (u7 G) all0 at_103 rfl rfl rfl lr (by decide) all0 ?_
      rintro _ _ _ _ X1459 ⟨xi1_1460, rfl, q1461⟩ K1459 _ _
      have f1462 := V1454.k0 K1459
      have f1464 := (f1453.wr W1452).keep K1459
      refine sC 107 1 xi1_1460 X1459 f1462 (by decide) (lb rfl) (own_narC q1461) at_106 rfl (by omega) (Or.inr (by omega)) (sx X1459 f1464 nc0) ?_
      rintro _ _ X1463 ⟨_, _, W1463⟩ _ V1463
      have := W1463.size
      have V1465 := V1463.as [.int xi1_1449, .int xi1_1460, i0, i0, i0, i0, i0, i0, i0, i0, i0, i0, i0, i0, i0, i0, i0, i0, i0, i0, i0, i0] rfl
      refine oD 108 X1463 at_107 rfl rfl <| oc 109 (v := 2) X1463 at_108 rfl (by decide) <| oa 111 X1463 at_109 rfl rfl <| oc 112 (v := 2) X1463 at_111 rfl (by decide) <| oi 114 X1463 at_112 rfl rfl <| oI 115 X1463 at_114 rfl rfl <| oi 117 X1463 at_115 rfl rfl <| oi 119 X1463 at_117 rfl rfl ?_
      have f1466 := (f1455.keep K1459).wr W1463
      have f1467 := (f1456.k0 K1459).oth W1463 (by omega)
      have f1468 := (f1457.k0 K1459).oth W1463 (by omega)
      have f1469 := (f1458.k0 K1459).oth W1463 (by omega)
      refine mS 122 3 X1463 (rm_ch_a0 G f1466 f1467 f1468 f1469 (by decide) (by decide)) (u7 G) all0 at_119 rfl rfl rfl lr (by decide) all0 ?_
      rintro _ _ _ _ X1470 ⟨xi1_1471, rfl, q1472⟩ K1470 _ _
      have f1473 := V1465.k0 K1470
      have f1475 := (f1464.wr W1463).keep K1470
      refine sC 123 2 xi1_1471 X1470 f1473 (by decide) (lb rfl) (own_narC q1472) at_122 rfl (by omega) (Or.inr (by omega)) (sx X1470 f1475 nc0) ?_
      rintro _ _ X1474 ⟨_, _, W1474⟩ _ V1474
      have := W1474.size
      have V1476 := V1474.as [.int xi1_1449, .int xi1_1460, .int xi1_1471, i0, i0, i0, i0, i0, i0, i0, i0, i0, i0, i0, i0, i0, i0, i0, i0, i0, i0, i0] rfl
      refine oD 124 X1474 at_123 rfl rfl <| oc 125 (v := 3) X1474 at_124 rfl (by decide) <| oa 127 X1474 at_125 rfl rfl <| oc 128 (v := 3) X1474 at_127 rfl (by decide) <| oi 130 X1474 at_128 rfl rfl <| oI 131 X1474 at_130 rfl rfl <| oi 133 X1474 at_131 rfl rfl <| oi 135 X1474 at_133 rfl rfl ?_
      have f1477 := (f1466.keep K1470).wr W1474
      have f1478 := (f1467.k0 K1470).oth W1474 (by omega)
      have f1479 := (f1468.k0 K1470).oth W1474 (by omega)
      have f1480 := (f1469.k0 K1470).oth W1474 (by omega)
      refine mS 138 3 X1474 (rm_ch_a0 G f1477 f1478 f1479 f1480 (by decide) (by decide)) (u7 G) all0 at_135 rfl rfl rfl lr (by decide) all0 ?_
      rintro _ _ _ _ X1481 ⟨xi1_1482, rfl, q1483⟩ K1481 _ _
      have f1484 := V1476.k0 K1481
      have f1486 := (f1475.wr W1474).keep K1481
      refine sC 139 3 xi1_1482 X1481 f1484 (by decide) (lb rfl) (own_narC q1483) at_138 rfl (by omega) (Or.inr (by omega)) (sx X1481 f1486 nc0) ?_
      rintro _ _ X1485 ⟨_, _, W1485⟩ _ V1485
      have := W1485.size
      have V1487 := V1485.as [.int xi1_1449, .int xi1_1460, .int xi1_1471, .int xi1_1482, i0, i0, i0, i0, i0, i0, i0, i0, i0, i0, i0, i0, i0, i0, i0, i0, i0, i0] rfl
      refine oD 140 X1485 at_139 rfl rfl <| oc 141 (v := 4) X1485 at_140 rfl (by decide) <| oa 143 X1485 at_141 rfl rfl <| oc 144 (v := 4) X1485 at_143 rfl (by decide) <| oi 146 X1485 at_144 rfl rfl <| oI 147 X1485 at_146 rfl rfl <| oi 149 X1485 at_147 rfl rfl <| oi 151 X1485 at_149 rfl rfl ?_
      have f1488 := (f1477.keep K1481).wr W1485
      have f1489 := (f1478.k0 K1481).oth W1485 (by omega)
      have f1490 := (f1479.k0 K1481).oth W1485 (by omega)
      have f1491 := (f1480.k0 K1481).oth W1485 (by omega)
      refine mS 154 3 X1485 (rm_ch_a0 G f1488 f1489 f1490 f1491 (by decide) (by decide)) (u7 G) all0 at_151 rfl rfl rfl lr (by decide) all0 ?_
      rintro _ _ _ _ X1492 ⟨xi1_1493, rfl, q1494⟩ K1492 _ _
      have f1495 := V1487.k0 K1492
      have f1497 := (f1486.wr W1485).keep K1492
      refine sC 155 4 xi1_1493 X1492 f1495 (by decide) (lb rfl) (own_narC q1494) at_154 rfl (by omega) (Or.inr (by omega)) (sx X1492 f1497 nc0) ?_
      rintro _ _ X1496 ⟨_, _, W1496⟩ _ V1496
      have := W1496.size
      have V1498 := V1496.as [.int xi1_1449, .int xi1_1460, .int xi1_1471, .int xi1_1482, .int xi1_1493, i0, i0, i0, i0, i0, i0, i0, i0, i0, i0, i0, i0, i0, i0, i0, i0, i0] rfl
      refine oD 156 X1496 at_155 rfl rfl <| oc 157 (v := 5) X1496 at_156 rfl (by decide) <| oa 159 X1496 at_157 rfl rfl <| oc 160 (v := 5) X1496 at_159 rfl (by decide) <| oi 162 X1496 at_160 rfl rfl <| oI 163 X1496 at_162 rfl rfl <| oi 165 X1496 at_163 rfl rfl <| oi 167 X1496 at_165 rfl rfl ?_
      have f1499 := (f1488.keep K1492).wr W1496
      have f1500 := (f1489.k0 K1492).oth W1496 (by omega)
      have f1501 := (f1490.k0 K1492).oth W1496 (by omega)
      have f1502 := (f1491.k0 K1492).oth W1496 (by omega)
      refine mS 170 3 X1496 (rm_ch_a0 G f1499 f1500 f1501 f1502 (by decide) (by decide)) (u7 G) all0 at_167 rfl rfl rfl lr (by decide) all0 ?_
      rintro _ _ _ _ X1503 ⟨xi1_1504, rfl, q1505⟩ K1503 _ _
      have f1506 := V1498.k0 K1503
      have f1508 := (f1497.wr W1496).keep K1503
      refine sC 171 5 xi1_1504 X1503 f1506 (by decide) (lb rfl) (own_narC q1505) at_170 rfl (by omega) (Or.inr (by omega)) (sx X1503 f1508 nc0) ?_
      rintro _ _ X1507 ⟨_, _, W1507⟩ _ V1507
      have := W1507.size
      have V1509 := V1507.as [.int xi1_1449, .int xi1_1460, .int xi1_1471, .int xi1_1482, .int xi1_1493, .int xi1_1504, i0, i0, i0, i0, i0, i0, i0, i0, i0, i0, i0, i0, i0, i0, i0, i0] rfl
      refine oD 172 X1507 at_171 rfl rfl <| ob 174 (v := 6) X1507 at_172 rfl (by decide) <| oa 176 X1507 at_174 rfl rfl <| ob 178 (v := 6) X1507 at_176 rfl (by decide) <| oi 180 X1507 at_178 rfl rfl <| oI 181 X1507 at_180 rfl rfl <| oi 183 X1507 at_181 rfl rfl <| oi 185 X1507 at_183 rfl rfl ?_
      have f1510 := (f1499.keep K1503).wr W1507
      have f1511 := (f1500.k0 K1503).oth W1507 (by omega)
      have f1512 := (f1501.k0 K1503).oth W1507 (by omega)
      have f1513 := (f1502.k0 K1503).oth W1507 (by omega)
      refine mS 188 3 X1507 (rm_ch_a0 G f1510 f1511 f1512 f1513 (by decide) (by decide)) (u7 G) all0 at_185 rfl rfl rfl lr (by decide) all0 ?_
      rintro _ _ _ _ X1514 ⟨xi1_1515, rfl, q1516⟩ K1514 _ _
      have f1517 := V1509.k0 K1514
      have f1519 := (f1508.wr W1507).keep K1514
      refine sC 189 6 xi1_1515 X1514 f1517 (by decide) (lb rfl) (own_narC q1516) at_188 rfl (by omega) (Or.inr (by omega)) (sx X1514 f1519 nc0) ?_
      rintro _ _ X1518 ⟨_, _, W1518⟩ _ V1518
      have := W1518.size
      have V1520 := V1518.as [.int xi1_1449, .int xi1_1460, .int xi1_1471, .int xi1_1482, .int xi1_1493, .int xi1_1504, .int xi1_1515, i0, i0, i0, i0, i0, i0, i0, i0, i0, i0, i0, i0, i0, i0, i0] rfl
      refine oD 190 X1518 at_189 rfl rfl <| ob 192 (v := 7) X1518 at_190 rfl (by decide) <| oa 194 X1518 at_192 rfl rfl <| ob 196 (v := 7) X1518 at_194 rfl (by decide) <| oi 198 X1518 at_196 rfl rfl <| oI 199 X1518 at_198 rfl rfl <| oi 201 X1518 at_199 rfl rfl <| oi 203 X1518 at_201 rfl rfl ?_
      have f1521 := (f1510.keep K1514).wr W1518
      have f1522 := (f1511.k0 K1514).oth W1518 (by omega)
      have f1523 := (f1512.k0 K1514).oth W1518 (by omega)
      have f1524 := (f1513.k0 K1514).oth W1518 (by omega)
      refine mS 206 3 X1518 (rm_ch_a0 G f1521 f1522 f1523 f1524 (by decide) (by decide)) (u7 G) all0 at_203 rfl rfl rfl lr (by decide) all0 ?_
      rintro _ _ _ _ X1525 ⟨xi1_1526, rfl, q1527⟩ K1525 _ _
      have f1528 := V1520.k0 K1525
      have f1530 := (f1519.wr W1518).keep K1525
      refine sC 207 7 xi1_1526 X1525 f1528 (by decide) (lb rfl) (own_narC q1527) at_206 rfl (by omega) (Or.inr (by omega)) (sx X1525 f1530 nc0) ?_
      rintro _ _ X1529 ⟨_, _, W1529⟩ _ V1529
      have := W1529.size
      have V1531 := V1529.as [.int xi1_1449, .int xi1_1460, .int xi1_1471, .int xi1_1482, .int xi1_1493, .int xi1_1504, .int xi1_1515, .int xi1_1526, i0, i0, i0, i0, i0, i0, i0, i0, i0, i0, i0, i0, i0, i0] rfl
      refine oD 208 X1529 at_207 rfl rfl <| ob 210 (v := 8) X1529 at_208 rfl (by decide) <| oa 212 X1529 at_210 rfl rfl <| ob 214 (v := 8) X1529 at_212 rfl (by decide) <| oi 216 X1529 at_214 rfl rfl <| oI 217 X1529 at_216 rfl rfl <| oi 219 X1529 at_217 rfl rfl <| oi 221 X1529 at_219 rfl rfl ?_
      have f1532 := (f1521.keep K1525).wr W1529
      have f1533 := (f1522.k0 K1525).oth W1529 (by omega)
      have f1534 := (f1523.k0 K1525).oth W1529 (by omega)
      have f1535 := (f1524.k0 K1525).oth W1529 (by omega)
      refine mS 224 3 X1529 (rm_ch_a0 G f1532 f1533 f1534 f1535 (by decide) (by decide)) (u7 G) all0 at_221 rfl rfl rfl lr (by decide) all0 ?_
      rintro _ _ _ _ X1536 ⟨xi1_1537, rfl, q1538⟩ K1536 _ _
      have f1539 := V1531.k0 K1536
      have f1541 := (f1530.wr W1529).keep K1536
      refine sC 225 8 xi1_1537 X1536 f1539 (by decide) (lb rfl) (own_narC q1538) at_224 rfl (by omega) (Or.inr (by omega)) (sx X1536 f1541 nc0) ?_
      rintro _ _ X1540 ⟨_, _, W1540⟩ _ V1540
      have := W1540.size
      have V1542 := V1540.as [.int xi1_1449, .int xi1_1460, .int xi1_1471, .int xi1_1482, .int xi1_1493, .int xi1_1504, .int xi1_1515, .int xi1_1526, .int xi1_1537, i0, i0, i0, i0, i0, i0, i0, i0, i0, i0, i0, i0, i0] rfl
      refine oD 226 X1540 at_225 rfl rfl <| ob 228 (v := 9) X1540 at_226 rfl (by decide) <| oa 230 X1540 at_228 rfl rfl <| ob 232 (v := 9) X1540 at_230 rfl (by decide) <| oi 234 X1540 at_232 rfl rfl <| oI 235 X1540 at_234 rfl rfl <| oi 237 X1540 at_235 rfl rfl <| oi 239 X1540 at_237 rfl rfl ?_
      have f1543 := (f1532.keep K1536).wr W1540
      have f1544 := (f1533.k0 K1536).oth W1540 (by omega)
      have f1545 := (f1534.k0 K1536).oth W1540 (by omega)
      have f1546 := (f1535.k0 K1536).oth W1540 (by omega)
      refine mS 242 3 X1540 (rm_ch_a0 G f1543 f1544 f1545 f1546 (by decide) (by decide)) (u7 G) all0 at_239 rfl rfl rfl lr (by decide) all0 ?_
      rintro _ _ _ _ X1547 ⟨xi1_1548, rfl, q1549⟩ K1547 _ _
      have f1550 := V1542.k0 K1547
      have f1552 := (f1541.wr W1540).keep K1547
      refine sC 243 9 xi1_1548 X1547 f1550 (by decide) (lb rfl) (own_narC q1549) at_242 rfl (by omega) (Or.inr (by omega)) (sx X1547 f1552 nc0) ?_
      rintro _ _ X1551 ⟨_, _, W1551⟩ _ V1551
      have := W1551.size
      have V1553 := V1551.as [.int xi1_1449, .int xi1_1460, .int xi1_1471, .int xi1_1482, .int xi1_1493, .int xi1_1504, .int xi1_1515, .int xi1_1526, .int xi1_1537, .int xi1_1548, i0, i0, i0, i0, i0, i0, i0, i0, i0, i0, i0, i0] rfl
      refine oD 244 X1551 at_243 rfl rfl <| ob 246 (v := 10) X1551 at_244 rfl (by decide) <| oa 248 X1551 at_246 rfl rfl <| ob 250 (v := 10) X1551 at_248 rfl (by decide) <| oi 252 X1551 at_250 rfl rfl <| oI 253 X1551 at_252 rfl rfl <| oi 255 X1551 at_253 rfl rfl <| oi 257 X1551 at_255 rfl rfl ?_
      have f1554 := (f1543.keep K1547).wr W1551
      have f1555 := (f1544.k0 K1547).oth W1551 (by omega)
      have f1556 := (f1545.k0 K1547).oth W1551 (by omega)
      have f1557 := (f1546.k0 K1547).oth W1551 (by omega)
      refine mS 260 3 X1551 (rm_ch_a0 G f1554 f1555 f1556 f1557 (by decide) (by decide)) (u7 G) all0 at_257 rfl rfl rfl lr (by decide) all0 ?_
      rintro _ _ _ _ X1558 ⟨xi1_1559, rfl, q1560⟩ K1558 _ _
      have f1561 := V1553.k0 K1558
      have f1563 := (f1552.wr W1551).keep K1558
      refine sC 261 10 xi1_1559 X1558 f1561 (by decide) (lb rfl) (own_narC q1560) at_260 rfl (by omega) (Or.inr (by omega)) (sx X1558 f1563 nc0) ?_
      rintro _ _ X1562 ⟨_, _, W1562⟩ _ V1562
      have := W1562.size
      have V1564 := V1562.as [.int xi1_1449, .int xi1_1460, .int xi1_1471, .int xi1_1482, .int xi1_1493, .int xi1_1504, .int xi1_1515, .int xi1_1526, .int xi1_1537, .int xi1_1548, .int xi1_1559, i0, i0, i0, i0, i0, i0, i0, i0, i0, i0, i0] rfl
      refine oD 262 X1562 at_261 rfl rfl <| ob 264 (v := 11) X1562 at_262 rfl (by decide) <| oa 266 X1562 at_264 rfl rfl <| ob 268 (v := 11) X1562 at_266 rfl (by decide) <| oi 270 X1562 at_268 rfl rfl <| oI 271 X1562 at_270 rfl rfl <| oi 273 X1562 at_271 rfl rfl <| oi 275 X1562 at_273 rfl rfl ?_
      have f1565 := (f1554.keep K1558).wr W1562
      have f1566 := (f1555.k0 K1558).oth W1562 (by omega)
      have f1567 := (f1556.k0 K1558).oth W1562 (by omega)
      have f1568 := (f1557.k0 K1558).oth W1562 (by omega)
      refine mS 278 3 X1562 (rm_ch_a0 G f1565 f1566 f1567 f1568 (by decide) (by decide)) (u7 G) all0 at_275 rfl rfl rfl lr (by decide) all0 ?_
      rintro _ _ _ _ X1569 ⟨xi1_1570, rfl, q1571⟩ K1569 _ _
      have f1572 := V1564.k0 K1569
      have f1574 := (f1563.wr W1562).keep K1569
      refine sC 279 11 xi1_1570 X1569 f1572 (by decide) (lb rfl) (own_narC q1571) at_278 rfl (by omega) (Or.inr (by omega)) (sx X1569 f1574 nc0) ?_
      rintro _ _ X1573 ⟨_, _, W1573⟩ _ V1573
      have := W1573.size
      have V1575 := V1573.as [.int xi1_1449, .int xi1_1460, .int xi1_1471, .int xi1_1482, .int xi1_1493, .int xi1_1504, .int xi1_1515, .int xi1_1526, .int xi1_1537, .int xi1_1548, .int xi1_1559, .int xi1_1570, i0, i0, i0, i0, i0, i0, i0, i0, i0, i0] rfl
      refine oD 280 X1573 at_279 rfl rfl <| ob 282 (v := 12) X1573 at_280 rfl (by decide) <| oa 284 X1573 at_282 rfl rfl <| ob 286 (v := 12) X1573 at_284 rfl (by decide) <| oi 288 X1573 at_286 rfl rfl <| oI 289 X1573 at_288 rfl rfl <| oi 291 X1573 at_289 rfl rfl <| oi 293 X1573 at_291 rfl rfl ?_
      have f1576 := (f1565.keep K1569).wr W1573
      have f1577 := (f1566.k0 K1569).oth W1573 (by omega)
      have f1578 := (f1567.k0 K1569).oth W1573 (by omega)
      have f1579 := (f1568.k0 K1569).oth W1573 (by omega)
      refine mS 296 3 X1573 (rm_ch_a0 G f1576 f1577 f1578 f1579 (by decide) (by decide)) (u7 G) all0 at_293 rfl rfl rfl lr (by decide) all0 ?_
      rintro _ _ _ _ X1580 ⟨xi1_1581, rfl, q1582⟩ K1580 _ _
      have f1583 := V1575.k0 K1580
      have f1585 := (f1574.wr W1573).keep K1580
      refine sC 297 12 xi1_1581 X1580 f1583 (by decide) (lb rfl) (own_narC q1582) at_296 rfl (by omega) (Or.inr (by omega)) (sx X1580 f1585 nc0) ?_
      rintro _ _ X1584 ⟨_, _, W1584⟩ _ V1584
      have := W1584.size
      have V1586 := V1584.as [.int xi1_1449, .int xi1_1460, .int xi1_1471, .int xi1_1482, .int xi1_1493, .int xi1_1504, .int xi1_1515, .int xi1_1526, .int xi1_1537, .int xi1_1548, .int xi1_1559, .int xi1_1570, .int xi1_1581, i0, i0, i0, i0, i0, i0, i0, i0, i0] rfl
      refine oD 298 X1584 at_297 rfl rfl <| ob 300 (v := 13) X1584 at_298 rfl (by decide) <| oa 302 X1584 at_300 rfl rfl <| ob 304 (v := 13) X1584 at_302 rfl (by decide) <| oi 306 X1584 at_304 rfl rfl <| oI 307 X1584 at_306 rfl rfl <| oi 309 X1584 at_307 rfl rfl <| oi 311 X1584 at_309 rfl rfl ?_
      have f1587 := (f1576.keep K1580).wr W1584
      have f1588 := (f1577.k0 K1580).oth W1584 (by omega)
      have f1589 := (f1578.k0 K1580).oth W1584 (by omega)
      have f1590 := (f1579.k0 K1580).oth W1584 (by omega)
      refine mS 314 3 X1584 (rm_ch_a0 G f1587 f1588 f1589 f1590 (by decide) (by decide)) (u7 G) all0 at_311 rfl rfl rfl lr (by decide) all0 ?_
      rintro _ _ _ _ X1591 ⟨xi1_1592, rfl, q1593⟩ K1591 _ _
      have f1594 := V1586.k0 K1591
      have f1596 := (f1585.wr W1584).keep K1591
      refine sC 315 13 xi1_1592 X1591 f1594 (by decide) (lb rfl) (own_narC q1593) at_314 rfl (by omega) (Or.inr (by omega)) (sx X1591 f1596 nc0) ?_
      rintro _ _ X1595 ⟨_, _, W1595⟩ _ V1595
      have := W1595.size
      have V1597 := V1595.as [.int xi1_1449, .int xi1_1460, .int xi1_1471, .int xi1_1482, .int xi1_1493, .int xi1_1504, .int xi1_1515, .int xi1_1526, .int xi1_1537, .int xi1_1548, .int xi1_1559, .int xi1_1570, .int xi1_1581, .int xi1_1592, i0, i0, i0, i0, i0, i0, i0, i0] rfl
      refine oD 316 X1595 at_315 rfl rfl <| ob 318 (v := 14) X1595 at_316 rfl (by decide) <| oa 320 X1595 at_318 rfl rfl <| ob 322 (v := 14) X1595 at_320 rfl (by decide) <| oi 324 X1595 at_322 rfl rfl <| oI 325 X1595 at_324 rfl rfl <| oi 327 X1595 at_325 rfl rfl <| oi 329 X1595 at_327 rfl rfl ?_
      have f1598 := (f1587.keep K1591).wr W1595
      have f1599 := (f1588.k0 K1591).oth W1595 (by omega)
      have f1600 := (f1589.k0 K1591).oth W1595 (by omega)
      have f1601 := (f1590.k0 K1591).oth W1595 (by omega)
      refine mS 332 3 X1595 (rm_ch_a0 G f1598 f1599 f1600 f1601 (by decide) (by decide)) (u7 G) all0 at_329 rfl rfl rfl lr (by decide) all0 ?_
      rintro _ _ _ _ X1602 ⟨xi1_1603, rfl, q1604⟩ K1602 _ _
      have f1605 := V1597.k0 K1602
      have f1607 := (f1596.wr W1595).keep K1602
      refine sC 333 14 xi1_1603 X1602 f1605 (by decide) (lb rfl) (own_narC q1604) at_332 rfl (by omega) (Or.inr (by omega)) (sx X1602 f1607 nc0) ?_
      rintro _ _ X1606 ⟨_, _, W1606⟩ _ V1606
      have := W1606.size
      have V1608 := V1606.as [.int xi1_1449, .int xi1_1460, .int xi1_1471, .int xi1_1482, .int xi1_1493, .int xi1_1504, .int xi1_1515, .int xi1_1526, .int xi1_1537, .int xi1_1548, .int xi1_1559, .int xi1_1570, .int xi1_1581, .int xi1_1592, .int xi1_1603, i0, i0, i0, i0, i0, i0, i0] rfl
      refine oD 334 X1606 at_333 rfl rfl <| ob 336 (v := 15) X1606 at_334 rfl (by decide) <| oa 338 X1606 at_336 rfl rfl <| ob 340 (v := 15) X1606 at_338 rfl (by decide) <| oi 342 X1606 at_340 rfl rfl <| oI 343 X1606 at_342 rfl rfl <| oi 345 X1606 at_343 rfl rfl <| oi 347 X1606 at_345 rfl rfl ?_
      have f1609 := (f1598.keep K1602).wr W1606
      have f1610 := (f1599.k0 K1602).oth W1606 (by omega)
      have f1611 := (f1600.k0 K1602).oth W1606 (by omega)
      have f1612 := (f1601.k0 K1602).oth W1606 (by omega)
      refine mS 350 3 X1606 (rm_ch_a0 G f1609 f1610 f1611 f1612 (by decide) (by decide)) (u7 G) all0 at_347 rfl rfl rfl lr (by decide) all0 ?_
      rintro _ _ _ _ X1613 ⟨xi1_1614, rfl, q1615⟩ K1613 _ _
      have f1616 := V1608.k0 K1613
      have f1618 := (f1607.wr W1606).keep K1613
      refine sC 351 15 xi1_1614 X1613 f1616 (by decide) (lb rfl) (own_narC q1615) at_350 rfl (by omega) (Or.inr (by omega)) (sx X1613 f1618 nc0) ?_
      rintro _ _ X1617 ⟨_, _, W1617⟩ _ V1617
      have := W1617.size
      have V1619 := V1617.as [.int xi1_1449, .int xi1_1460, .int xi1_1471, .int xi1_1482, .int xi1_1493, .int xi1_1504, .int xi1_1515, .int xi1_1526, .int xi1_1537, .int xi1_1548, .int xi1_1559, .int xi1_1570, .int xi1_1581, .int xi1_1592, .int xi1_1603, .int xi1_1614, i0, i0, i0, i0, i0, i0] rfl
      refine oD 352 X1617 at_351 rfl rfl <| ob 354 (v := 16) X1617 at_352 rfl (by decide) <| oa 356 X1617 at_354 rfl rfl <| ob 358 (v := 16) X1617 at_356 rfl (by decide) <| oi 360 X1617 at_358 rfl rfl <| oI 361 X1617 at_360 rfl rfl <| oi 363 X1617 at_361 rfl rfl <| oi 365 X1617 at_363 rfl rfl ?_
      have f1620 := (f1609.keep K1613).wr W1617
      have f1621 := (f1610.k0 K1613).oth W1617 (by omega)
      have f1622 := (f1611.k0 K1613).oth W1617 (by omega)
      have f1623 := (f1612.k0 K1613).oth W1617 (by omega)
      refine mS 368 3 X1617 (rm_ch_a0 G f1620 f1621 f1622 f1623 (by decide) (by decide)) (u7 G) all0 at_365 rfl rfl rfl lr (by decide) all0 ?_
      rintro _ _ _ _ X1624 ⟨xi1_1625, rfl, q1626⟩ K1624 _ _
      have f1627 := V1619.k0 K1624
      have f1629 := (f1618.wr W1617).keep K1624
      refine sC 369 16 xi1_1625 X1624 f1627 (by decide) (lb rfl) (own_narC q1626) at_368 rfl (by omega) (Or.inr (by omega)) (sx X1624 f1629 nc0) ?_
      rintro _ _ X1628 ⟨_, _, W1628⟩ _ V1628
      have := W1628.size
      have V1630 := V1628.as [.int xi1_1449, .int xi1_1460, .int xi1_1471, .int xi1_1482, .int xi1_1493, .int xi1_1504, .int xi1_1515, .int xi1_1526, .int xi1_1537, .int xi1_1548, .int xi1_1559, .int xi1_1570, .int xi1_1581, .int xi1_1592, .int xi1_1603, .int xi1_1614, .int xi1_1625, i0, i0, i0, i0, i0] rfl
      refine oD 370 X1628 at_369 rfl rfl <| ob 372 (v := 17) X1628 at_370 rfl (by decide) <| oa 374 X1628 at_372 rfl rfl <| ob 376 (v := 17) X1628 at_374 rfl (by decide) <| oi 378 X1628 at_376 rfl rfl <| oI 379 X1628 at_378 rfl rfl <| oi 381 X1628 at_379 rfl rfl <| oi 383 X1628 at_381 rfl rfl ?_
      have f1631 := (f1620.keep K1624).wr W1628
      have f1632 := (f1621.k0 K1624).oth W1628 (by omega)
      have f1633 := (f1622.k0 K1624).oth W1628 (by omega)
      have f1634 := (f1623.k0 K1624).oth W1628 (by omega)
      refine mS 386 3 X1628 (rm_ch_a0 G f1631 f1632 f1633 f1634 (by decide) (by decide)) (u7 G) all0 at_383 rfl rfl rfl lr (by decide) all0 ?_
      rintro _ _ _ _ X1635 ⟨xi1_1636, rfl, q1637⟩ K1635 _ _
      have f1638 := V1630.k0 K1635
      have f1640 := (f1629.wr W1628).keep K1635
      refine sC 387 17 xi1_1636 X1635 f1638 (by decide) (lb rfl) (own_narC q1637) at_386 rfl (by omega) (Or.inr (by omega)) (sx X1635 f1640 nc0) ?_
      rintro _ _ X1639 ⟨_, _, W1639⟩ _ V1639
      have := W1639.size
      have V1641 := V1639.as [.int xi1_1449, .int xi1_1460, .int xi1_1471, .int xi1_1482, .int xi1_1493, .int xi1_1504, .int xi1_1515, .int xi1_1526, .int xi1_1537, .int xi1_1548, .int xi1_1559, .int xi1_1570, .int xi1_1581, .int xi1_1592, .int xi1_1603, .int xi1_1614, .int xi1_1625, .int xi1_1636, i0, i0, i0, i0] rfl
      refine oD 388 X1639 at_387 rfl rfl <| ob 390 (v := 18) X1639 at_388 rfl (by decide) <| oa 392 X1639 at_390 rfl rfl <| ob 394 (v := 18) X1639 at_392 rfl (by decide) <| oi 396 X1639 at_394 rfl rfl <| oI 397 X1639 at_396 rfl rfl <| oi 399 X1639 at_397 rfl rfl <| oi 401 X1639 at_399 rfl rfl ?_
      have f1642 := (f1631.keep K1635).wr W1639
      have f1643 := (f1632.k0 K1635).oth W1639 (by omega)
      have f1644 := (f1633.k0 K1635).oth W1639 (by omega)
      have f1645 := (f1634.k0 K1635).oth W1639 (by omega)
      refine mS 404 3 X1639 (rm_ch_a0 G f1642 f1643 f1644 f1645 (by decide) (by decide)) (u7 G) all0 at_401 rfl rfl rfl lr (by decide) all0 ?_
      rintro _ _ _ _ X1646 ⟨xi1_1647, rfl, q1648⟩ K1646 _ _
      have f1649 := V1641.k0 K1646
      have f1651 := (f1640.wr W1639).keep K1646
      refine sC 405 18 xi1_1647 X1646 f1649 (by decide) (lb rfl) (own_narC q1648) at_404 rfl (by omega) (Or.inr (by omega)) (sx X1646 f1651 nc0) ?_
      rintro _ _ X1650 ⟨_, _, W1650⟩ _ V1650
      have := W1650.size
      have V1652 := V1650.as [.int xi1_1449, .int xi1_1460, .int xi1_1471, .int xi1_1482, .int xi1_1493, .int xi1_1504, .int xi1_1515, .int xi1_1526, .int xi1_1537, .int xi1_1548, .int xi1_1559, .int xi1_1570, .int xi1_1581, .int xi1_1592, .int xi1_1603, .int xi1_1614, .int xi1_1625, .int xi1_1636, .int xi1_1647, i0, i0, i0] rfl
      refine oD 406 X1650 at_405 rfl rfl <| ob 408 (v := 19) X1650 at_406 rfl (by decide) <| oa 410 X1650 at_408 rfl rfl <| ob 412 (v := 19) X1650 at_410 rfl (by decide) <| oi 414 X1650 at_412 rfl rfl <| oI 415 X1650 at_414 rfl rfl <| oi 417 X1650 at_415 rfl rfl <| oi 419 X1650 at_417 rfl rfl ?_
      have f1653 := (f1642.keep K1646).wr W1650
      have f1654 := (f1643.k0 K1646).oth W1650 (by omega)
      have f1655 := (f1644.k0 K1646).oth W1650 (by omega)
      have f1656 := (f1645.k0 K1646).oth W1650 (by omega)
      refine mS 422 3 X1650 (rm_ch_a0 G f1653 f1654 f1655 f1656 (by decide) (by decide)) (u7 G) all0 at_419 rfl rfl rfl lr (by decide) all0 ?_
      rintro _ _ _ _ X1657 ⟨xi1_1658, rfl, q1659⟩ K1657 _ _
      have f1660 := V1652.k0 K1657
      have f1662 := (f1651.wr W1650).keep K1657
      refine sC 423 19 xi1_1658 X1657 f1660 (by decide) (lb rfl) (own_narC q1659) at_422 rfl (by omega) (Or.inr (by omega)) (sx X1657 f1662 nc0) ?_
      rintro _ _ X1661 ⟨_, _, W1661⟩ _ V1661
      have := W1661.size
      have V1663 := V1661.as [.int xi1_1449, .int xi1_1460, .int xi1_1471, .int xi1_1482, .int xi1_1493, .int xi1_1504, .int xi1_1515, .int xi1_1526, .int xi1_1537, .int xi1_1548, .int xi1_1559, .int xi1_1570, .int xi1_1581, .int xi1_1592, .int xi1_1603, .int xi1_1614, .int xi1_1625, .int xi1_1636, .int xi1_1647, .int xi1_1658, i0, i0] rfl
      refine oD 424 X1661 at_423 rfl rfl <| ob 426 (v := 20) X1661 at_424 rfl (by decide) <| oa 428 X1661 at_426 rfl rfl <| ob 430 (v := 20) X1661 at_428 rfl (by decide) <| oi 432 X1661 at_430 rfl rfl <| oI 433 X1661 at_432 rfl rfl <| oi 435 X1661 at_433 rfl rfl <| oi 437 X1661 at_435 rfl rfl ?_
      have f1664 := (f1653.keep K1657).wr W1661
      have f1665 := (f1654.k0 K1657).oth W1661 (by omega)
      have f1666 := (f1655.k0 K1657).oth W1661 (by omega)
      have f1667 := (f1656.k0 K1657).oth W1661 (by omega)
      refine mS 440 3 X1661 (rm_ch_a0 G f1664 f1665 f1666 f1667 (by decide) (by decide)) (u7 G) all0 at_437 rfl rfl rfl lr (by decide) all0 ?_
      rintro _ _ _ _ X1668 ⟨xi1_1669, rfl, q1670⟩ K1668 _ _
      have f1671 := V1663.k0 K1668
      have f1673 := (f1662.wr W1661).keep K1668
      refine sC 441 20 xi1_1669 X1668 f1671 (by decide) (lb rfl) (own_narC q1670) at_440 rfl (by omega) (Or.inr (by omega)) (sx X1668 f1673 nc0) ?_
      rintro _ _ X1672 ⟨_, _, W1672⟩ _ V1672
      have := W1672.size
      have V1674 := V1672.as [.int xi1_1449, .int xi1_1460, .int xi1_1471, .int xi1_1482, .int xi1_1493, .int xi1_1504, .int xi1_1515, .int xi1_1526, .int xi1_1537, .int xi1_1548, .int xi1_1559, .int xi1_1570, .int xi1_1581, .int xi1_1592, .int xi1_1603, .int xi1_1614, .int xi1_1625, .int xi1_1636, .int xi1_1647, .int xi1_1658, .int xi1_1669, i0] rfl
      refine oD 442 X1672 at_441 rfl rfl <| ob 444 (v := 21) X1672 at_442 rfl (by decide) <| oa 446 X1672 at_444 rfl rfl <| ob 448 (v := 21) X1672 at_446 rfl (by decide) <| oi 450 X1672 at_448 rfl rfl <| oI 451 X1672 at_450 rfl rfl <| oi 453 X1672 at_451 rfl rfl <| oi 455 X1672 at_453 rfl rfl ?_
      have f1675 := (f1664.keep K1668).wr W1672
      have f1676 := (f1665.k0 K1668).oth W1672 (by omega)
      have f1677 := (f1666.k0 K1668).oth W1672 (by omega)
      have f1678 := (f1667.k0 K1668).oth W1672 (by omega)
      refine mS 458 3 X1672 (rm_ch_a1 G f1675 f1676 f1677 f1678 (by decide)) (u7 G) all0 at_455 rfl rfl rfl lr (by decide) all0 ?_
      rintro _ _ _ _ X1679 ⟨xi1_1680, rfl, q1681⟩ K1679 _ _
      have f1682 := V1674.k0 K1679
      have f1684 := (f1673.wr W1672).keep K1679
      refine sC 459 21 xi1_1680 X1679 f1682 (by decide) (lb rfl) (own_narC q1681) at_458 rfl (by omega) (Or.inr (by omega)) (sx X1679 f1684 nc0) ?_
      rintro _ _ X1683 ⟨_, _, W1683⟩ _ V1683
      have := W1683.size
      have V1685 := V1683.as [.int xi1_1449, .int xi1_1460, .int xi1_1471, .int xi1_1482, .int xi1_1493, .int xi1_1504, .int xi1_1515, .int xi1_1526, .int xi1_1537, .int xi1_1548, .int xi1_1559, .int xi1_1570, .int xi1_1581, .int xi1_1592, .int xi1_1603, .int xi1_1614, .int xi1_1625, .int xi1_1636, .int xi1_1647, .int xi1_1658, .int xi1_1669, .int xi1_1680] rfl
      refine oU 461 (l' := #[ii p1, ii p2, ii p3, ii p4, ii p5, ii 3, rr a1439, ii mm1440, ii po1441, rr b1442, uu, uu, uu]) X1683 at_459 rfl rfl rfl <| oa 463 X1683 at_461 rfl rfl <| oI 464 X1683 at_463 rfl rfl <| ob 466 (v := 7) X1683 at_464 rfl (by decide) ?_
      rcases own_and7 p2 with hk1686 | hk1686 | hk1686 | hk1686 | hk1686 | hk1686 | hk1686 | hk1686
      · refine o_iand 467 (v := 0) X1683 at_466 rfl hk1686 ?_
        have f1687 := f1684.wr W1683
        refine mS 470 0 X1683 (rm_au11 G f1687 (by decide)) (u8 G) all0 at_467 rfl rfl rfl lr (by decide) all0 ?_
        rintro _ _ _ _ X1688 ⟨xa1_1689, _, _, rfl, q1692, q1693, q1694, q1695, _⟩ _ _ _
        refine oU 472 (l' := #[ii p1, ii p2, ii p3, ii p4, ii p5, ii 3, rr a1439, ii mm1440, ii po1441, rr b1442, rr xa1_1689, uu, uu]) X1688 at_470 rfl rfl rfl ?_
        have f1698 := (F_su1 G).ext X1688.old.2
        have f1699 := (sg0 G).ext X1688.old.2
        have := own_neL f1698 f1699 q1694 q1695 (by decide)
        have f1701 := (F_su2 G).ext X1688.old.2
        have f1702 := (sg1 G).ext X1688.old.2
        have := own_neL f1701 f1702 q1694 q1695 (by decide)
        have f1704 := (F_su3 G).ext X1688.old.2
        have f1705 := (sg2 G).ext X1688.old.2
        have := own_neL f1704 f1705 q1694 q1695 (by decide)
        have f1707 := (F_su4 G).ext X1688.old.2
        have f1708 := (sg3 G).ext X1688.old.2
        have := own_neL f1707 f1708 q1694 q1695 (by decide)
        refine oa 474 X1688 at_472 rfl rfl <| mS 477 0 X1688 (rm_au14 G q1692 q1693 q1694 q1695 (by decide)) (u11 G) all0 at_474 rfl rfl rfl lr (by decide) all0 ?_
        rintro _ _ _ _ X1709 rfl K1709 _ _
        refine oU 479 (l' := #[ii p1, ii p2, ii p3, ii p4, ii p5, ii 3, rr a1439, ii mm1440, ii po1441, rr b1442, rr xa1_1689, .val .null, uu]) X1709 at_477 rfl rfl rfl <| oa 481 X1709 at_479 rfl rfl ?_
        have f1710 := q1692.keep K1709
        have f1711 := q1693.k0 K1709
        have f1712 := q1694.k0 K1709
        have f1713 := q1695.k0 K1709
        refine mS 484 0 X1709 (rm_au17 G f1710 f1711 f1712 f1713 (by decide) (by decide) (by decide) (by decide) (by omega)) (u15 G) all0 at_481 rfl rfl rfl lr (by decide) all0 ?_
        rintro _ _ _ _ X1714 rfl _ _ _
        refine o_aconstNull 485 X1714 at_484 rfl ?_
        have f1715 := (sg9 G).ext X1714.old.2
        refine mV 488 0 X1714 f1715 (rm_au18 G ) (u16 G) all0 at_485 rfl rfl rfl lr (by decide) all0 ?_
        rintro _ _ _ _ X1716 rfl _ _ _
        refine o_castNull 491 X1716 at_488 rfl <| oU 493 (l' := #[ii p1, ii p2, ii p3, ii p4, ii p5, ii 3, rr a1439, ii mm1440, ii po1441, rr b1442, rr xa1_1689, .val .null, .val .null]) X1716 at_491 rfl rfl rfl <| o_aload 495 X1716 at_493 rfl rfl rfl <| o_aload 497 X1716 at_495 rfl rfl rfl <| o_acmp 500 (same := true) X1716 at_497 rfl rfl (decide_eq_true rfl) (by decide) (by decide) <| oc 501 (v := 1) X1716 at_500 rfl (by decide) <| og 505 X1716 at_501 (by decide) ?_
        exact o_nret (y := (1 : Int32)) (t := .boolean) X1716 at_505 rfl (by decide) (by simp) (by decide) (by decide) (fun _ CC => rfl)
      · refine o_iand 467 (v := 1) X1683 at_466 rfl hk1686 <| mS 470 0 X1683 (rm_au24 G V1685 q1450 q1461 q1472 q1483 q1494 q1505 q1516 q1527 q1538 q1549 q1560 q1571 q1582 q1593 q1604 q1615 q1626 q1637 q1648 q1659 q1670 q1681 (by decide) (by decide)) (u8 G) all0 at_467 rfl rfl rfl lr (by decide) all0 ?_
        rintro _ _ _ _ X1717 ⟨xa1_1718, _, _, rfl, q1721, q1722, q1723, q1724, q1725, q1726, q1727, _⟩ _ _ _
        refine oU 472 (l' := #[ii p1, ii p2, ii p3, ii p4, ii p5, ii 3, rr a1439, ii mm1440, ii po1441, rr b1442, rr xa1_1718, uu, uu]) X1717 at_470 rfl rfl rfl <| oa 474 X1717 at_472 rfl rfl <| mS 477 0 X1717 (rm_au25 G q1721 q1722 q1723 q1725 q1726 (by decide) (by decide) (by decide) (by decide)) (u11 G) (sS (by omega) q1724 (sS (by omega) q1727 all0)) at_474 rfl rfl rfl lr (by decide) all0 ?_
        rintro _ _ _ _ X1729 rfl K1729 _ _
        refine oU 479 (l' := #[ii p1, ii p2, ii p3, ii p4, ii p5, ii 3, rr a1439, ii mm1440, ii po1441, rr b1442, rr xa1_1718, .val .null, uu]) X1729 at_477 rfl rfl rfl <| oa 481 X1729 at_479 rfl rfl ?_
        have f1730 := q1721.keep K1729
        have f1731 := q1722.k0 K1729
        have f1732 := q1723.k0 K1729
        have f1733 := q1725.k0 K1729
        refine mS 484 0 X1729 (rm_au17 G f1730 f1731 f1732 f1733 (by decide) (by decide) (by decide) (by decide) (by omega)) (u15 G) all0 at_481 rfl rfl rfl lr (by decide) all0 ?_
        rintro _ _ _ _ X1734 rfl _ _ _
        refine o_aconstNull 485 X1734 at_484 rfl ?_
        have f1735 := (sg9 G).ext X1734.old.2
        refine mV 488 0 X1734 f1735 (rm_au18 G ) (u16 G) all0 at_485 rfl rfl rfl lr (by decide) all0 ?_
        rintro _ _ _ _ X1736 rfl _ _ _
        refine o_castNull 491 X1736 at_488 rfl <| oU 493 (l' := #[ii p1, ii p2, ii p3, ii p4, ii p5, ii 3, rr a1439, ii mm1440, ii po1441, rr b1442, rr xa1_1718, .val .null, .val .null]) X1736 at_491 rfl rfl rfl <| o_aload 495 X1736 at_493 rfl rfl rfl <| o_aload 497 X1736 at_495 rfl rfl rfl <| o_acmp 500 (same := true) X1736 at_497 rfl rfl (decide_eq_true rfl) (by decide) (by decide) <| oc 501 (v := 1) X1736 at_500 rfl (by decide) <| og 505 X1736 at_501 (by decide) ?_
        exact o_nret (y := (1 : Int32)) (t := .boolean) X1736 at_505 rfl (by decide) (by simp) (by decide) (by decide) (fun _ CC => rfl)
      · refine o_iand 467 (v := 2) X1683 at_466 rfl hk1686 <| mS 470 0 X1683 (rm_au31 G V1685 q1450 q1461 q1472 q1483 q1494 q1505 q1516 q1527 q1538 q1549 q1560 q1571 q1582 q1593 q1604 q1615 q1626 q1637 q1648 q1659 q1670 q1681 (by decide) (by decide) (by decide)) (u8 G) all0 at_467 rfl rfl rfl lr (by decide) all0 ?_
        rintro _ _ _ _ X1737 ⟨xa1_1738, _, _, rfl, q1741, q1742, q1743, q1744, q1745, q1746, q1747, _⟩ _ _ _
        refine oU 472 (l' := #[ii p1, ii p2, ii p3, ii p4, ii p5, ii 3, rr a1439, ii mm1440, ii po1441, rr b1442, rr xa1_1738, uu, uu]) X1737 at_470 rfl rfl rfl ?_
        by_cases hc1749 : (oEq [(xi1_1449.toInt8.toInt32), (xi1_1460.toInt8.toInt32), (xi1_1471.toInt8.toInt32), (xi1_1482.toInt8.toInt32)] [117, 115, 101, 114]) = (0 : Int32)
        · by_cases hc1750 : (oEq [(xi1_1449.toInt8.toInt32), (xi1_1460.toInt8.toInt32), (xi1_1471.toInt8.toInt32), (xi1_1482.toInt8.toInt32)] [114, 111, 108, 101]) = (0 : Int32)
          · refine oa 474 X1737 at_472 rfl rfl <| mS 477 0 X1737 (rm_au34 G q1741 q1742 q1743 q1745 q1746 hc1750 hc1749) (u11 G) (sS (by omega) q1744 (sS (by omega) q1747 all0)) at_474 rfl rfl rfl lr (by decide) all0 ?_
            rintro _ _ _ _ X1751 rfl K1751 _ _
            refine oU 479 (l' := #[ii p1, ii p2, ii p3, ii p4, ii p5, ii 3, rr a1439, ii mm1440, ii po1441, rr b1442, rr xa1_1738, .val .null, uu]) X1751 at_477 rfl rfl rfl <| oa 481 X1751 at_479 rfl rfl ?_
            have f1752 := q1741.keep K1751
            have f1753 := q1742.k0 K1751
            have f1754 := q1743.k0 K1751
            have f1755 := q1745.k0 K1751
            refine mS 484 0 X1751 (rm_au37 G f1752 f1753 f1754 f1755 hc1750 hc1749 (by omega)) (u15 G) all0 at_481 rfl rfl rfl lr (by decide) all0 ?_
            rintro _ _ _ _ X1756 rfl _ _ _
            refine o_aconstNull 485 X1756 at_484 rfl ?_
            have f1757 := (sg9 G).ext X1756.old.2
            refine mV 488 0 X1756 f1757 (rm_au18 G ) (u16 G) all0 at_485 rfl rfl rfl lr (by decide) all0 ?_
            rintro _ _ _ _ X1758 rfl _ _ _
            refine o_castNull 491 X1758 at_488 rfl <| oU 493 (l' := #[ii p1, ii p2, ii p3, ii p4, ii p5, ii 3, rr a1439, ii mm1440, ii po1441, rr b1442, rr xa1_1738, .val .null, .val .null]) X1758 at_491 rfl rfl rfl <| o_aload 495 X1758 at_493 rfl rfl rfl <| o_aload 497 X1758 at_495 rfl rfl rfl <| o_acmp 500 (same := true) X1758 at_497 rfl rfl (decide_eq_true rfl) (by decide) (by decide) <| oc 501 (v := 1) X1758 at_500 rfl (by decide) <| og 505 X1758 at_501 (by decide) ?_
            exact o_nret (y := (1 : Int32)) (t := .boolean) X1758 at_505 rfl (by decide) (by simp) (by decide) (by decide) (fun _ CC => rfl)
          · refine oa 474 X1737 at_472 rfl rfl <| mS 477 0 X1737 (rm_au39 G q1741 q1742 q1743 q1745 q1746 hc1750 hc1749) (u11 G) (sS (by omega) q1744 (sS (by omega) q1747 all0)) at_474 rfl rfl rfl lr (by decide) all0 ?_
            rintro _ _ _ _ X1759 rfl K1759 _ _
            refine oU 479 (l' := #[ii p1, ii p2, ii p3, ii p4, ii p5, ii 3, rr a1439, ii mm1440, ii po1441, rr b1442, rr xa1_1738, rr ku2, uu]) X1759 at_477 rfl rfl rfl <| oa 481 X1759 at_479 rfl rfl ?_
            have f1760 := q1741.keep K1759
            have f1761 := q1742.k0 K1759
            have f1762 := q1743.k0 K1759
            have f1763 := q1745.k0 K1759
            refine mS 484 0 X1759 (rm_au44 G f1760 f1761 f1762 f1763 hc1750 hc1749 (by omega)) (u15 G) all0 at_481 rfl rfl rfl lr (by decide) all0 ?_
            rintro _ _ _ _ X1764 ⟨_, rfl, q1766, q1767, _⟩ _ _ _
            refine o_aconstNull 485 X1764 at_484 rfl <| mV 488 0 X1764 q1766 (rm_au45 G q1767) (u16 G) all0 at_485 rfl rfl rfl lr (by decide) all0 ?_
            rintro _ _ _ _ X1769 rfl _ _ _
            have f1770 := (sg6 G).ext X1769.old.2
            refine o_castY 491 X1769 (w141 G) (Ins.self f1770) at_488 rfl ?_
            intro _ X1772
            refine oU 493 (l' := #[ii p1, ii p2, ii p3, ii p4, ii p5, ii 3, rr a1439, ii mm1440, ii po1441, rr b1442, rr xa1_1738, rr ku2, rr ku2]) X1772 at_491 rfl rfl rfl <| oa 495 X1772 at_493 rfl rfl <| oa 497 X1772 at_495 rfl rfl <| o_acmp 500 (same := true) X1772 at_497 rfl rfl (decide_eq_true rfl) (by decide) (by decide) <| oc 501 (v := 1) X1772 at_500 rfl (by decide) <| og 505 X1772 at_501 (by decide) ?_
            exact o_nret (y := (1 : Int32)) (t := .boolean) X1772 at_505 rfl (by decide) (by simp) (by decide) (by decide) (fun _ CC => rfl)
        · refine oa 474 X1737 at_472 rfl rfl <| mS 477 0 X1737 (rm_au47 G q1741 q1742 q1743 q1745 q1746 hc1749) (u11 G) (sS (by omega) q1744 (sS (by omega) q1747 all0)) at_474 rfl rfl rfl lr (by decide) all0 ?_
          rintro _ _ _ _ X1773 rfl K1773 _ _
          refine oU 479 (l' := #[ii p1, ii p2, ii p3, ii p4, ii p5, ii 3, rr a1439, ii mm1440, ii po1441, rr b1442, rr xa1_1738, rr ku1, uu]) X1773 at_477 rfl rfl rfl <| oa 481 X1773 at_479 rfl rfl ?_
          have f1774 := q1741.keep K1773
          have f1775 := q1742.k0 K1773
          have f1776 := q1743.k0 K1773
          have f1777 := q1745.k0 K1773
          refine mS 484 0 X1773 (rm_au52 G f1774 f1775 f1776 f1777 hc1749 (by omega)) (u15 G) all0 at_481 rfl rfl rfl lr (by decide) all0 ?_
          rintro _ _ _ _ X1778 ⟨_, rfl, q1780, q1781, _⟩ _ _ _
          refine o_aconstNull 485 X1778 at_484 rfl <| mV 488 0 X1778 q1780 (rm_au53 G q1781) (u16 G) all0 at_485 rfl rfl rfl lr (by decide) all0 ?_
          rintro _ _ _ _ X1783 rfl _ _ _
          have f1784 := (sg5 G).ext X1783.old.2
          refine o_castY 491 X1783 (w141 G) (Ins.self f1784) at_488 rfl ?_
          intro _ X1786
          refine oU 493 (l' := #[ii p1, ii p2, ii p3, ii p4, ii p5, ii 3, rr a1439, ii mm1440, ii po1441, rr b1442, rr xa1_1738, rr ku1, rr ku1]) X1786 at_491 rfl rfl rfl <| oa 495 X1786 at_493 rfl rfl <| oa 497 X1786 at_495 rfl rfl <| o_acmp 500 (same := true) X1786 at_497 rfl rfl (decide_eq_true rfl) (by decide) (by decide) <| oc 501 (v := 1) X1786 at_500 rfl (by decide) <| og 505 X1786 at_501 (by decide) ?_
          exact o_nret (y := (1 : Int32)) (t := .boolean) X1786 at_505 rfl (by decide) (by simp) (by decide) (by decide) (fun _ CC => rfl)
      · refine o_iand 467 (v := 3) X1683 at_466 rfl hk1686 <| mS 470 0 X1683 (rm_au59 G V1685 q1450 q1461 q1472 q1483 q1494 q1505 q1516 q1527 q1538 q1549 q1560 q1571 q1582 q1593 q1604 q1615 q1626 q1637 q1648 q1659 q1670 q1681 (by decide) (by decide) (by decide) (by decide)) (u8 G) all0 at_467 rfl rfl rfl lr (by decide) all0 ?_
        rintro _ _ _ _ X1787 ⟨xa1_1788, _, _, rfl, q1791, q1792, q1793, q1794, q1795, q1796, q1797, _⟩ _ _ _
        refine oU 472 (l' := #[ii p1, ii p2, ii p3, ii p4, ii p5, ii 3, rr a1439, ii mm1440, ii po1441, rr b1442, rr xa1_1788, uu, uu]) X1787 at_470 rfl rfl rfl ?_
        by_cases hc1799 : (oEq [(xi1_1449.toInt8.toInt32), (xi1_1460.toInt8.toInt32), (xi1_1471.toInt8.toInt32), (xi1_1482.toInt8.toInt32), (xi1_1493.toInt8.toInt32)] [103, 114, 111, 117, 112]) = (0 : Int32)
        · refine oa 474 X1787 at_472 rfl rfl <| mS 477 0 X1787 (rm_au61 G q1791 q1792 q1793 q1795 q1796 hc1799) (u11 G) (sS (by omega) q1794 (sS (by omega) q1797 all0)) at_474 rfl rfl rfl lr (by decide) all0 ?_
          rintro _ _ _ _ X1800 rfl K1800 _ _
          refine oU 479 (l' := #[ii p1, ii p2, ii p3, ii p4, ii p5, ii 3, rr a1439, ii mm1440, ii po1441, rr b1442, rr xa1_1788, .val .null, uu]) X1800 at_477 rfl rfl rfl <| oa 481 X1800 at_479 rfl rfl ?_
          have f1801 := q1791.keep K1800
          have f1802 := q1792.k0 K1800
          have f1803 := q1793.k0 K1800
          have f1804 := q1795.k0 K1800
          refine mS 484 0 X1800 (rm_au63 G f1801 f1802 f1803 f1804 hc1799 (by omega)) (u15 G) all0 at_481 rfl rfl rfl lr (by decide) all0 ?_
          rintro _ _ _ _ X1805 rfl _ _ _
          refine o_aconstNull 485 X1805 at_484 rfl ?_
          have f1806 := (sg9 G).ext X1805.old.2
          refine mV 488 0 X1805 f1806 (rm_au18 G ) (u16 G) all0 at_485 rfl rfl rfl lr (by decide) all0 ?_
          rintro _ _ _ _ X1807 rfl _ _ _
          refine o_castNull 491 X1807 at_488 rfl <| oU 493 (l' := #[ii p1, ii p2, ii p3, ii p4, ii p5, ii 3, rr a1439, ii mm1440, ii po1441, rr b1442, rr xa1_1788, .val .null, .val .null]) X1807 at_491 rfl rfl rfl <| o_aload 495 X1807 at_493 rfl rfl rfl <| o_aload 497 X1807 at_495 rfl rfl rfl <| o_acmp 500 (same := true) X1807 at_497 rfl rfl (decide_eq_true rfl) (by decide) (by decide) <| oc 501 (v := 1) X1807 at_500 rfl (by decide) <| og 505 X1807 at_501 (by decide) ?_
          exact o_nret (y := (1 : Int32)) (t := .boolean) X1807 at_505 rfl (by decide) (by simp) (by decide) (by decide) (fun _ CC => rfl)
        · refine oa 474 X1787 at_472 rfl rfl <| mS 477 0 X1787 (rm_au65 G q1791 q1792 q1793 q1795 q1796 hc1799) (u11 G) (sS (by omega) q1794 (sS (by omega) q1797 all0)) at_474 rfl rfl rfl lr (by decide) all0 ?_
          rintro _ _ _ _ X1808 rfl K1808 _ _
          refine oU 479 (l' := #[ii p1, ii p2, ii p3, ii p4, ii p5, ii 3, rr a1439, ii mm1440, ii po1441, rr b1442, rr xa1_1788, rr ku4, uu]) X1808 at_477 rfl rfl rfl <| oa 481 X1808 at_479 rfl rfl ?_
          have f1809 := q1791.keep K1808
          have f1810 := q1792.k0 K1808
          have f1811 := q1793.k0 K1808
          have f1812 := q1795.k0 K1808
          refine mS 484 0 X1808 (rm_au70 G f1809 f1810 f1811 f1812 hc1799 (by omega)) (u15 G) all0 at_481 rfl rfl rfl lr (by decide) all0 ?_
          rintro _ _ _ _ X1813 ⟨_, rfl, q1815, q1816, _⟩ _ _ _
          refine o_aconstNull 485 X1813 at_484 rfl <| mV 488 0 X1813 q1815 (rm_au71 G q1816) (u16 G) all0 at_485 rfl rfl rfl lr (by decide) all0 ?_
          rintro _ _ _ _ X1818 rfl _ _ _
          have f1819 := (sg8 G).ext X1818.old.2
          refine o_castY 491 X1818 (w141 G) (Ins.self f1819) at_488 rfl ?_
          intro _ X1821
          refine oU 493 (l' := #[ii p1, ii p2, ii p3, ii p4, ii p5, ii 3, rr a1439, ii mm1440, ii po1441, rr b1442, rr xa1_1788, rr ku4, rr ku4]) X1821 at_491 rfl rfl rfl <| oa 495 X1821 at_493 rfl rfl <| oa 497 X1821 at_495 rfl rfl <| o_acmp 500 (same := true) X1821 at_497 rfl rfl (decide_eq_true rfl) (by decide) (by decide) <| oc 501 (v := 1) X1821 at_500 rfl (by decide) <| og 505 X1821 at_501 (by decide) ?_
          exact o_nret (y := (1 : Int32)) (t := .boolean) X1821 at_505 rfl (by decide) (by simp) (by decide) (by decide) (fun _ CC => rfl)
      · refine o_iand 467 (v := 4) X1683 at_466 rfl hk1686 <| mS 470 0 X1683 (rm_au77 G V1685 q1450 q1461 q1472 q1483 q1494 q1505 q1516 q1527 q1538 q1549 q1560 q1571 q1582 q1593 q1604 q1615 q1626 q1637 q1648 q1659 q1670 q1681 (by decide) (by decide) (by decide) (by decide) (by decide)) (u8 G) all0 at_467 rfl rfl rfl lr (by decide) all0 ?_
        rintro _ _ _ _ X1822 ⟨xa1_1823, _, _, rfl, q1826, q1827, q1828, q1829, q1830, q1831, q1832, _⟩ _ _ _
        refine oU 472 (l' := #[ii p1, ii p2, ii p3, ii p4, ii p5, ii 3, rr a1439, ii mm1440, ii po1441, rr b1442, rr xa1_1823, uu, uu]) X1822 at_470 rfl rfl rfl <| oa 474 X1822 at_472 rfl rfl <| mS 477 0 X1822 (rm_au25 G q1826 q1827 q1828 q1830 q1831 (by decide) (by decide) (by decide) (by decide)) (u11 G) (sS (by omega) q1829 (sS (by omega) q1832 all0)) at_474 rfl rfl rfl lr (by decide) all0 ?_
        rintro _ _ _ _ X1834 rfl K1834 _ _
        refine oU 479 (l' := #[ii p1, ii p2, ii p3, ii p4, ii p5, ii 3, rr a1439, ii mm1440, ii po1441, rr b1442, rr xa1_1823, .val .null, uu]) X1834 at_477 rfl rfl rfl <| oa 481 X1834 at_479 rfl rfl ?_
        have f1835 := q1826.keep K1834
        have f1836 := q1827.k0 K1834
        have f1837 := q1828.k0 K1834
        have f1838 := q1830.k0 K1834
        refine mS 484 0 X1834 (rm_au17 G f1835 f1836 f1837 f1838 (by decide) (by decide) (by decide) (by decide) (by omega)) (u15 G) all0 at_481 rfl rfl rfl lr (by decide) all0 ?_
        rintro _ _ _ _ X1839 rfl _ _ _
        refine o_aconstNull 485 X1839 at_484 rfl ?_
        have f1840 := (sg9 G).ext X1839.old.2
        refine mV 488 0 X1839 f1840 (rm_au18 G ) (u16 G) all0 at_485 rfl rfl rfl lr (by decide) all0 ?_
        rintro _ _ _ _ X1841 rfl _ _ _
        refine o_castNull 491 X1841 at_488 rfl <| oU 493 (l' := #[ii p1, ii p2, ii p3, ii p4, ii p5, ii 3, rr a1439, ii mm1440, ii po1441, rr b1442, rr xa1_1823, .val .null, .val .null]) X1841 at_491 rfl rfl rfl <| o_aload 495 X1841 at_493 rfl rfl rfl <| o_aload 497 X1841 at_495 rfl rfl rfl <| o_acmp 500 (same := true) X1841 at_497 rfl rfl (decide_eq_true rfl) (by decide) (by decide) <| oc 501 (v := 1) X1841 at_500 rfl (by decide) <| og 505 X1841 at_501 (by decide) ?_
        exact o_nret (y := (1 : Int32)) (t := .boolean) X1841 at_505 rfl (by decide) (by simp) (by decide) (by decide) (fun _ CC => rfl)
      · refine o_iand 467 (v := 5) X1683 at_466 rfl hk1686 <| mS 470 0 X1683 (rm_au83 G V1685 q1450 q1461 q1472 q1483 q1494 q1505 q1516 q1527 q1538 q1549 q1560 q1571 q1582 q1593 q1604 q1615 q1626 q1637 q1648 q1659 q1670 q1681 (by decide) (by decide) (by decide) (by decide) (by decide) (by decide)) (u8 G) all0 at_467 rfl rfl rfl lr (by decide) all0 ?_
        rintro _ _ _ _ X1842 ⟨xa1_1843, _, _, rfl, q1846, q1847, q1848, q1849, q1850, q1851, q1852, _⟩ _ _ _
        refine oU 472 (l' := #[ii p1, ii p2, ii p3, ii p4, ii p5, ii 3, rr a1439, ii mm1440, ii po1441, rr b1442, rr xa1_1843, uu, uu]) X1842 at_470 rfl rfl rfl <| oa 474 X1842 at_472 rfl rfl <| mS 477 0 X1842 (rm_au25 G q1846 q1847 q1848 q1850 q1851 (by decide) (by decide) (by decide) (by decide)) (u11 G) (sS (by omega) q1849 (sS (by omega) q1852 all0)) at_474 rfl rfl rfl lr (by decide) all0 ?_
        rintro _ _ _ _ X1854 rfl K1854 _ _
        refine oU 479 (l' := #[ii p1, ii p2, ii p3, ii p4, ii p5, ii 3, rr a1439, ii mm1440, ii po1441, rr b1442, rr xa1_1843, .val .null, uu]) X1854 at_477 rfl rfl rfl <| oa 481 X1854 at_479 rfl rfl ?_
        have f1855 := q1846.keep K1854
        have f1856 := q1847.k0 K1854
        have f1857 := q1848.k0 K1854
        have f1858 := q1850.k0 K1854
        refine mS 484 0 X1854 (rm_au17 G f1855 f1856 f1857 f1858 (by decide) (by decide) (by decide) (by decide) (by omega)) (u15 G) all0 at_481 rfl rfl rfl lr (by decide) all0 ?_
        rintro _ _ _ _ X1859 rfl _ _ _
        refine o_aconstNull 485 X1859 at_484 rfl ?_
        have f1860 := (sg9 G).ext X1859.old.2
        refine mV 488 0 X1859 f1860 (rm_au18 G ) (u16 G) all0 at_485 rfl rfl rfl lr (by decide) all0 ?_
        rintro _ _ _ _ X1861 rfl _ _ _
        refine o_castNull 491 X1861 at_488 rfl <| oU 493 (l' := #[ii p1, ii p2, ii p3, ii p4, ii p5, ii 3, rr a1439, ii mm1440, ii po1441, rr b1442, rr xa1_1843, .val .null, .val .null]) X1861 at_491 rfl rfl rfl <| o_aload 495 X1861 at_493 rfl rfl rfl <| o_aload 497 X1861 at_495 rfl rfl rfl <| o_acmp 500 (same := true) X1861 at_497 rfl rfl (decide_eq_true rfl) (by decide) (by decide) <| oc 501 (v := 1) X1861 at_500 rfl (by decide) <| og 505 X1861 at_501 (by decide) ?_
        exact o_nret (y := (1 : Int32)) (t := .boolean) X1861 at_505 rfl (by decide) (by simp) (by decide) (by decide) (fun _ CC => rfl)
      · refine o_iand 467 (v := 6) X1683 at_466 rfl hk1686 <| mS 470 0 X1683 (rm_au89 G V1685 q1450 q1461 q1472 q1483 q1494 q1505 q1516 q1527 q1538 q1549 q1560 q1571 q1582 q1593 q1604 q1615 q1626 q1637 q1648 q1659 q1670 q1681 (by decide) (by decide) (by decide) (by decide) (by decide) (by decide) (by decide)) (u8 G) all0 at_467 rfl rfl rfl lr (by decide) all0 ?_
        rintro _ _ _ _ X1862 ⟨xa1_1863, _, _, rfl, q1866, q1867, q1868, q1869, q1870, q1871, q1872, _⟩ _ _ _
        refine oU 472 (l' := #[ii p1, ii p2, ii p3, ii p4, ii p5, ii 3, rr a1439, ii mm1440, ii po1441, rr b1442, rr xa1_1863, uu, uu]) X1862 at_470 rfl rfl rfl ?_
        by_cases hc1874 : (oEq [(xi1_1449.toInt8.toInt32), (xi1_1460.toInt8.toInt32), (xi1_1471.toInt8.toInt32), (xi1_1482.toInt8.toInt32), (xi1_1493.toInt8.toInt32), (xi1_1504.toInt8.toInt32), (xi1_1515.toInt8.toInt32), (xi1_1526.toInt8.toInt32), (xi1_1537.toInt8.toInt32), (xi1_1548.toInt8.toInt32), (xi1_1559.toInt8.toInt32), (xi1_1570.toInt8.toInt32), (xi1_1581.toInt8.toInt32), (xi1_1592.toInt8.toInt32), (xi1_1603.toInt8.toInt32), (xi1_1614.toInt8.toInt32), (xi1_1625.toInt8.toInt32), (xi1_1636.toInt8.toInt32), (xi1_1647.toInt8.toInt32), (xi1_1658.toInt8.toInt32), (xi1_1669.toInt8.toInt32)] [114, 111, 108, 101, 45, 97, 110, 100, 45, 115, 117, 98, 111, 114, 100, 105, 110, 97, 116, 101, 115]) = (0 : Int32)
        · refine oa 474 X1862 at_472 rfl rfl <| mS 477 0 X1862 (rm_au91 G q1866 q1867 q1868 q1870 q1871 hc1874) (u11 G) (sS (by omega) q1869 (sS (by omega) q1872 all0)) at_474 rfl rfl rfl lr (by decide) all0 ?_
          rintro _ _ _ _ X1875 rfl K1875 _ _
          refine oU 479 (l' := #[ii p1, ii p2, ii p3, ii p4, ii p5, ii 3, rr a1439, ii mm1440, ii po1441, rr b1442, rr xa1_1863, .val .null, uu]) X1875 at_477 rfl rfl rfl <| oa 481 X1875 at_479 rfl rfl ?_
          have f1876 := q1866.keep K1875
          have f1877 := q1867.k0 K1875
          have f1878 := q1868.k0 K1875
          have f1879 := q1870.k0 K1875
          refine mS 484 0 X1875 (rm_au93 G f1876 f1877 f1878 f1879 hc1874 (by omega)) (u15 G) all0 at_481 rfl rfl rfl lr (by decide) all0 ?_
          rintro _ _ _ _ X1880 rfl _ _ _
          refine o_aconstNull 485 X1880 at_484 rfl ?_
          have f1881 := (sg9 G).ext X1880.old.2
          refine mV 488 0 X1880 f1881 (rm_au18 G ) (u16 G) all0 at_485 rfl rfl rfl lr (by decide) all0 ?_
          rintro _ _ _ _ X1882 rfl _ _ _
          refine o_castNull 491 X1882 at_488 rfl <| oU 493 (l' := #[ii p1, ii p2, ii p3, ii p4, ii p5, ii 3, rr a1439, ii mm1440, ii po1441, rr b1442, rr xa1_1863, .val .null, .val .null]) X1882 at_491 rfl rfl rfl <| o_aload 495 X1882 at_493 rfl rfl rfl <| o_aload 497 X1882 at_495 rfl rfl rfl <| o_acmp 500 (same := true) X1882 at_497 rfl rfl (decide_eq_true rfl) (by decide) (by decide) <| oc 501 (v := 1) X1882 at_500 rfl (by decide) <| og 505 X1882 at_501 (by decide) ?_
          exact o_nret (y := (1 : Int32)) (t := .boolean) X1882 at_505 rfl (by decide) (by simp) (by decide) (by decide) (fun _ CC => rfl)
        · refine oa 474 X1862 at_472 rfl rfl <| mS 477 0 X1862 (rm_au95 G q1866 q1867 q1868 q1870 q1871 hc1874) (u11 G) (sS (by omega) q1869 (sS (by omega) q1872 all0)) at_474 rfl rfl rfl lr (by decide) all0 ?_
          rintro _ _ _ _ X1883 rfl K1883 _ _
          refine oU 479 (l' := #[ii p1, ii p2, ii p3, ii p4, ii p5, ii 3, rr a1439, ii mm1440, ii po1441, rr b1442, rr xa1_1863, rr ku3, uu]) X1883 at_477 rfl rfl rfl <| oa 481 X1883 at_479 rfl rfl ?_
          have f1884 := q1866.keep K1883
          have f1885 := q1867.k0 K1883
          have f1886 := q1868.k0 K1883
          have f1887 := q1870.k0 K1883
          refine mS 484 0 X1883 (rm_au100 G f1884 f1885 f1886 f1887 hc1874 (by omega)) (u15 G) all0 at_481 rfl rfl rfl lr (by decide) all0 ?_
          rintro _ _ _ _ X1888 ⟨_, rfl, q1890, q1891, _⟩ _ _ _
          refine o_aconstNull 485 X1888 at_484 rfl <| mV 488 0 X1888 q1890 (rm_au101 G q1891) (u16 G) all0 at_485 rfl rfl rfl lr (by decide) all0 ?_
          rintro _ _ _ _ X1893 rfl _ _ _
          have f1894 := (sg7 G).ext X1893.old.2
          refine o_castY 491 X1893 (w141 G) (Ins.self f1894) at_488 rfl ?_
          intro _ X1896
          refine oU 493 (l' := #[ii p1, ii p2, ii p3, ii p4, ii p5, ii 3, rr a1439, ii mm1440, ii po1441, rr b1442, rr xa1_1863, rr ku3, rr ku3]) X1896 at_491 rfl rfl rfl <| oa 495 X1896 at_493 rfl rfl <| oa 497 X1896 at_495 rfl rfl <| o_acmp 500 (same := true) X1896 at_497 rfl rfl (decide_eq_true rfl) (by decide) (by decide) <| oc 501 (v := 1) X1896 at_500 rfl (by decide) <| og 505 X1896 at_501 (by decide) ?_
          exact o_nret (y := (1 : Int32)) (t := .boolean) X1896 at_505 rfl (by decide) (by simp) (by decide) (by decide) (fun _ CC => rfl)
      · refine o_iand 467 (v := 7) X1683 at_466 rfl hk1686 <| mS 470 0 X1683 (rm_au107 G V1685 q1450 q1461 q1472 q1483 q1494 q1505 q1516 q1527 q1538 q1549 q1560 q1571 q1582 q1593 q1604 q1615 q1626 q1637 q1648 q1659 q1670 q1681 (by decide) (by decide) (by decide) (by decide) (by decide) (by decide) (by decide)) (u8 G) all0 at_467 rfl rfl rfl lr (by decide) all0 ?_
        rintro _ _ _ _ X1897 ⟨xa1_1898, _, _, rfl, q1901, q1902, q1903, q1904, q1905, q1906, q1907, _⟩ _ _ _
        refine oU 472 (l' := #[ii p1, ii p2, ii p3, ii p4, ii p5, ii 3, rr a1439, ii mm1440, ii po1441, rr b1442, rr xa1_1898, uu, uu]) X1897 at_470 rfl rfl rfl <| oa 474 X1897 at_472 rfl rfl <| mS 477 0 X1897 (rm_au25 G q1901 q1902 q1903 q1905 q1906 (by decide) (by decide) (by decide) (by decide)) (u11 G) (sS (by omega) q1904 (sS (by omega) q1907 all0)) at_474 rfl rfl rfl lr (by decide) all0 ?_
        rintro _ _ _ _ X1909 rfl K1909 _ _
        refine oU 479 (l' := #[ii p1, ii p2, ii p3, ii p4, ii p5, ii 3, rr a1439, ii mm1440, ii po1441, rr b1442, rr xa1_1898, .val .null, uu]) X1909 at_477 rfl rfl rfl <| oa 481 X1909 at_479 rfl rfl ?_
        have f1910 := q1901.keep K1909
        have f1911 := q1902.k0 K1909
        have f1912 := q1903.k0 K1909
        have f1913 := q1905.k0 K1909
        refine mS 484 0 X1909 (rm_au17 G f1910 f1911 f1912 f1913 (by decide) (by decide) (by decide) (by decide) (by omega)) (u15 G) all0 at_481 rfl rfl rfl lr (by decide) all0 ?_
        rintro _ _ _ _ X1914 rfl _ _ _
        refine o_aconstNull 485 X1914 at_484 rfl ?_
        have f1915 := (sg9 G).ext X1914.old.2
        refine mV 488 0 X1914 f1915 (rm_au18 G ) (u16 G) all0 at_485 rfl rfl rfl lr (by decide) all0 ?_
        rintro _ _ _ _ X1916 rfl _ _ _
        refine o_castNull 491 X1916 at_488 rfl <| oU 493 (l' := #[ii p1, ii p2, ii p3, ii p4, ii p5, ii 3, rr a1439, ii mm1440, ii po1441, rr b1442, rr xa1_1898, .val .null, .val .null]) X1916 at_491 rfl rfl rfl <| o_aload 495 X1916 at_493 rfl rfl rfl <| o_aload 497 X1916 at_495 rfl rfl rfl <| o_acmp 500 (same := true) X1916 at_497 rfl rfl (decide_eq_true rfl) (by decide) (by decide) <| oc 501 (v := 1) X1916 at_500 rfl (by decide) <| og 505 X1916 at_501 (by decide) ?_
        exact o_nret (y := (1 : Int32)) (t := .boolean) X1916 at_505 rfl (by decide) (by simp) (by decide) (by decide) (fun _ CC => rfl)
    · intro J
      refine oI 48 X1439 at_47 rfl rfl <| oc 49 (v := 2) X1439 at_48 rfl (by decide) <| o_ishr 50 (v := (p1 >>> ((2 : Int32) &&& 31))) X1439 at_49 rfl rfl <| oc 51 (v := 1) X1439 at_50 rfl (by decide) <| o_iand 52 (v := ((p1 >>> ((2 : Int32) &&& 31)) &&& (1 : Int32))) X1439 at_51 rfl rfl ?_
      by_cases hc1917 : ((p1 >>> ((2 : Int32) &&& 31)) &&& (1 : Int32)) = (0 : Int32)
      · refine oy 59 X1439 at_52 (by decide) ((if0 _ _).trans (teq hc1917).1) <| oc 60 (v := 0) X1439 at_59 rfl (by decide) <| oS 62 (l' := #[ii p1, ii p2, ii p3, ii p4, ii p5, ii 3, rr a1439, ii 0, uu, uu, uu, uu, uu]) X1439 at_60 rfl rfl ?_
        exact J 0 trivial
      · refine on 55 X1439 at_52 rfl ((if0 _ _).trans (feq hc1917).1) <| oc 56 (v := 1) X1439 at_55 rfl (by decide) <| og 60 X1439 at_56 (by decide) <| oS 62 (l' := #[ii p1, ii p2, ii p3, ii p4, ii p5, ii 3, rr a1439, ii 1, uu, uu, uu, uu, uu]) X1439 at_60 rfl rfl ?_
        exact J 1 trivial
end Walks
set_option maxRecDepth 65536 in
set_option maxHeartbeats 40000000 in
theorem comes_1 {Post : Tables → Env → Array Value → State → Outcome → State → Prop} (hpost : ∀ tb e args s v u, (limb_1_1.after args s (.returned v) u = true ∧ limb_1_2.after args s (.returned v) u = true ∧ True) → ReturnedEndW s (.returned v) u (Jvm.fieldLocs frame_1_writes args s ++ Jvm.arrayLocs frame_1_arrays args s ++ Jvm.staticLocs frame_1_statics s) 32 5376 → Post tb e args s (.returned v) u) :
    ArmFor flags0 classFile x code maxLocals ret World_1 tables_1 room_1 Calls_1 rest_1 Pre_1 Post := by
  intro l hfl _ _ p e ha hc hk s m args below hf hA hF happ hP
  obtain ⟨hcalls, hrest, hpre⟩ := hP
  obtain ⟨-, -, -, hnamed, -, -, -, hat⟩ := (Spec.applies_iff hf).mp happ
  obtain ⟨hg, hn⟩ := and_e (Cond.before_iff.mp (show (Jvm.Cond.and given_1 narrow_1).before args s = true from hpre))
  obtain ⟨g0, gt0⟩ := and_e hg
  obtain ⟨ga0, gt1⟩ := and_e gt0
  obtain ⟨ga1, gt2⟩ := and_e gt1
  obtain ⟨ga2, gt3⟩ := and_e gt2
  obtain ⟨ga3, gt4⟩ := and_e gt3
  obtain ⟨v0, v1, v2, v3, v4, rfl⟩ : ∃ v0 v1 v2 v3 v4 : Value, args = #[v0, v1, v2, v3, v4] := by
    have hs : args.size = 5 := by simpa [Cond.value, given_1] using g0
    obtain ⟨L⟩ := args
    match L, hs with
    | [v0, v1, v2, v3, v4], _ => exact ⟨v0, v1, v2, v3, v4, rfl⟩
  have hw := fun d (hd : d ∈ tables_1) => atoms_spec (ws := Jvm.Cond.code x code maxLocals ret :: tables_1) hat d (List.mem_cons_of_mem _ hd)
  have hfit : Fit s := fun {y c} hc i hi => by
    obtain ⟨ha, rfl⟩ := Array.getElem?_eq_some_iff.mp hc
    have q := List.all_eq_true.mp ((Array.all_eq_true_iff_forall_mem.mp hF) _ (Array.getElem_mem ha)) i (List.mem_range.mpr hi)
    simpa [Array.getElem?_eq_getElem hi] using q
  obtain ⟨hsets, hown0⟩ := atoms_of _ (rest_1_c_eq ▸ (show rest_1_c.before _ s = true from hrest))
  obtain ⟨i0, ei0⟩ := is_v ga0
  obtain rfl : v0 = (.int i0) := Option.some.inj ei0
  obtain ⟨i1, ei1⟩ := is_v ga1
  obtain rfl : v1 = (.int i1) := Option.some.inj ei1
  obtain ⟨i2, ei2⟩ := is_v ga2
  obtain rfl : v2 = (.int i2) := Option.some.inj ei2
  obtain ⟨i3, ei3⟩ := is_v ga3
  obtain rfl : v3 = (.int i3) := Option.some.inj ei3
  obtain ⟨i4, ei4⟩ := is_v gt4
  obtain rfl : v4 = (.int i4) := Option.some.inj ei4
  obtain ⟨zc, ezc⟩ := is_v (Cond.before_iff.mp (hsets _ (List.mem_of_getElem? (i := 1) rfl)))
  have S_zc : Sta s s.heap "java/lang/String" "COMPACT_STRINGS" "Z" (.int zc) := Sta.start ezc (Or.inl (hsets _ (List.mem_of_getElem? (i := 0) rfl)))
  have hzc : ¬ (zc = (0 : Int32)) := gotF (Cond.eq_ints ezc (Term.int_eval (0))) (not_v (Cond.before_iff.mp (hsets _ (List.mem_of_getElem? (i := 2) rfl))))
  have hEW := (EW.cons (w_0 hw) (by decide) (EW.cons (w_85 hw) (by decide) (EW.cons (w_86 hw) (by decide) (EW.cons (w_87 hw) (by decide) (EW.cons (w_143 hw) (by decide) EW.nil)))))
  have hCH0 : CHv s [("com/example/hedgerow/hedgerow/setup/KindSpeltPinLaw", 7), ("com/example/hedgerow/hedgerow/setup/KindSpeltPinLaw", 9), ("com/example/hedgerow/hedgerow/setup/KindSpeltPinLaw", 11), ("com/example/hedgerow/hedgerow/setup/KindSpeltPinLaw", 13), ("com/example/hedgerow/hedgerow/setup/KindSpeltPinLaw", 52)] s.vm s.heap := CHv.start hEW (fun p hp => hcalls.1 p hp) (hsets _ (List.mem_of_getElem? (i := 2) rfl)) (w_3 hw) (w_2 hw)
  have hKn0 : KnP false s.vm below := fun q => nomatch q
  obtain ⟨fmt, efmt, hfmt⟩ := Cond.isRef_spec (hsets _ (List.mem_of_getElem? (i := 8) rfl))
  have S_fmt := Sta.start efmt (Or.inl (hsets _ (List.mem_of_getElem? (i := 7) rfl)))
  obtain ⟨oem, eoem⟩ := exa_v (Cond.before_iff.mp (hsets _ (List.mem_of_getElem? (i := 11) rfl)))
  have E_oem := exa_at eoem (Cond.before_iff.mp (hsets _ (List.mem_of_getElem? (i := 11) rfl)))
  have S_oem := Sta.start eoem (Or.inl (hsets _ (List.mem_of_getElem? (i := 10) rfl)))
  have F_oem := Fld.start ((fld_at eoem).symm.trans (Cond.eq_refs (hsets _ (List.mem_of_getElem? (i := 12) rfl)) rfl rfl))
  obtain ⟨n_0, r_0⟩ := and_e hn
  obtain ⟨n_1, r_1⟩ := and_e r_0
  obtain ⟨n_2, r_2⟩ := and_e r_1
  obtain ⟨n_3, r_3⟩ := and_e r_2
  obtain ⟨n_4, r_4⟩ := and_e r_3
  obtain ⟨n_5, r_5⟩ := and_e r_4
  obtain ⟨n_6, r_6⟩ := and_e r_5
  obtain ⟨n_7, r_7⟩ := and_e r_6
  obtain ⟨n_8, r_8⟩ := and_e r_7
  obtain ⟨n_9, r_9⟩ := and_e r_8
  obtain ⟨n_10, r_10⟩ := and_e r_9
  obtain ⟨n_11, r_11⟩ := and_e r_10
  obtain ⟨n_12, r_12⟩ := and_e r_11
  obtain ⟨n_13, r_13⟩ := and_e r_12
  obtain ⟨n_14, r_14⟩ := and_e r_13
  obtain ⟨n_15, r_15⟩ := and_e r_14
  obtain ⟨n_16, r_16⟩ := and_e r_15
  obtain ⟨n_17, r_17⟩ := and_e r_16
  obtain ⟨n_18, r_18⟩ := and_e r_17
  obtain ⟨n_19, r_19⟩ := and_e r_18
  obtain ⟨n_20, r_20⟩ := and_e r_19
  obtain ⟨n_21, r_21⟩ := and_e r_20
  obtain ⟨n_22, r_22⟩ := and_e r_21
  obtain ⟨n_23, r_23⟩ := and_e r_22
  obtain ⟨n_24, r_24⟩ := and_e r_23
  obtain ⟨n_25, r_25⟩ := and_e r_24
  obtain ⟨n_26, r_26⟩ := and_e r_25
  obtain ⟨n_27, r_27⟩ := and_e r_26
  obtain ⟨n_28, r_28⟩ := and_e r_27
  obtain ⟨n_29, r_29⟩ := and_e r_28
  obtain ⟨n_30, r_30⟩ := and_e r_29
  obtain ⟨n_31, r_31⟩ := and_e r_30
  obtain ⟨n_32, r_32⟩ := and_e r_31
  obtain ⟨n_33, r_33⟩ := and_e r_32
  obtain ⟨n_34, r_34⟩ := and_e r_33
  obtain ⟨n_35, r_35⟩ := and_e r_34
  obtain ⟨n_36, r_36⟩ := and_e r_35
  obtain ⟨n_37, r_37⟩ := and_e r_36
  obtain ⟨n_38, r_38⟩ := and_e r_37
  obtain ⟨n_39, r_39⟩ := and_e r_38
  obtain ⟨n_40, r_40⟩ := and_e r_39
  obtain ⟨n_41, r_41⟩ := and_e r_40
  obtain ⟨n_42, r_42⟩ := and_e r_41
  obtain ⟨n_43, r_43⟩ := and_e r_42
  obtain ⟨n_44, r_44⟩ := and_e r_43
  obtain ⟨n_45, r_45⟩ := and_e r_44
  obtain ⟨n_46, r_46⟩ := and_e r_45
  obtain ⟨n_47, r_47⟩ := and_e r_46
  obtain ⟨n_48, r_48⟩ := and_e r_47
  obtain ⟨n_49, r_49⟩ := and_e r_48
  obtain ⟨n_50, r_50⟩ := and_e r_49
  obtain ⟨n_51, r_51⟩ := and_e r_50
  obtain ⟨n_52, r_52⟩ := and_e r_51
  obtain ⟨n_53, r_53⟩ := and_e r_52
  obtain ⟨n_54, r_54⟩ := and_e r_53
  obtain ⟨n_55, r_55⟩ := and_e r_54
  obtain ⟨n_56, r_56⟩ := and_e r_55
  obtain ⟨n_57, r_57⟩ := and_e r_56
  obtain ⟨n_58, r_58⟩ := and_e r_57
  obtain ⟨n_59, r_59⟩ := and_e r_58
  have n_60 := r_59
  obtain ⟨ku1, eku1⟩ := exa_v n_3
  have E_ku1 := exa_at eku1 n_3
  have S_ku1 := Sta.start eku1 (Or.inr ⟨(w_90 hw), (w_104 hw)⟩)
  obtain ⟨su1, esu1⟩ := exa_v n_11
  have E_su1 := exa_at esu1 n_11
  have F_ku1 := Fld.start ((fld_at eku1).symm.trans esu1)
  have C_su1 := Fld.start ((fld_at esu1).symm.trans (Cond.eq_int (Cond.value_holds n_12) (Term.int_eval (0))))
  obtain ⟨tu1, etu1⟩ := own_arrRef n_13
  have F_su1 := Fld.start ((fld_at esu1).symm.trans etu1)
  obtain ⟨ktu1, A_tu1⟩ := own_arvT (vs := [.int 117, .int 115, .int 101, .int 114]) (dv := .int (0 : Int32)) etu1 (Cond.before_iff.mpr n_13) (Cond.before_iff.mpr n_14) (by decide) (by decide) (own_all4' (Cond.eq_int (Cond.value_holds n_27) (Term.int_eval (117))) (Cond.eq_int (Cond.value_holds n_28) (Term.int_eval (115))) (Cond.eq_int (Cond.value_holds n_29) (Term.int_eval (101))) (Cond.eq_int (Cond.value_holds n_30) (Term.int_eval (114)))) (own_all4' rfl rfl rfl rfl)
  obtain ⟨ku2, eku2⟩ := exa_v n_5
  have E_ku2 := exa_at eku2 n_5
  have S_ku2 := Sta.start eku2 (Or.inr ⟨(w_90 hw), (w_105 hw)⟩)
  obtain ⟨su2, esu2⟩ := exa_v n_15
  have E_su2 := exa_at esu2 n_15
  have F_ku2 := Fld.start ((fld_at eku2).symm.trans esu2)
  have C_su2 := Fld.start ((fld_at esu2).symm.trans (Cond.eq_int (Cond.value_holds n_16) (Term.int_eval (0))))
  obtain ⟨tu2, etu2⟩ := own_arrRef n_17
  have F_su2 := Fld.start ((fld_at esu2).symm.trans etu2)
  obtain ⟨ktu2, A_tu2⟩ := own_arvT (vs := [.int 114, .int 111, .int 108, .int 101]) (dv := .int (0 : Int32)) etu2 (Cond.before_iff.mpr n_17) (Cond.before_iff.mpr n_18) (by decide) (by decide) (own_all4' (Cond.eq_int (Cond.value_holds n_31) (Term.int_eval (114))) (Cond.eq_int (Cond.value_holds n_32) (Term.int_eval (111))) (Cond.eq_int (Cond.value_holds n_33) (Term.int_eval (108))) (Cond.eq_int (Cond.value_holds n_34) (Term.int_eval (101)))) (own_all4' rfl rfl rfl rfl)
  obtain ⟨ku3, eku3⟩ := exa_v n_7
  have E_ku3 := exa_at eku3 n_7
  have S_ku3 := Sta.start eku3 (Or.inr ⟨(w_90 hw), (w_106 hw)⟩)
  obtain ⟨su3, esu3⟩ := exa_v n_19
  have E_su3 := exa_at esu3 n_19
  have F_ku3 := Fld.start ((fld_at eku3).symm.trans esu3)
  have C_su3 := Fld.start ((fld_at esu3).symm.trans (Cond.eq_int (Cond.value_holds n_20) (Term.int_eval (0))))
  obtain ⟨tu3, etu3⟩ := own_arrRef n_21
  have F_su3 := Fld.start ((fld_at esu3).symm.trans etu3)
  obtain ⟨ktu3, A_tu3⟩ := own_arvT (vs := [.int 114, .int 111, .int 108, .int 101, .int 45, .int 97, .int 110, .int 100, .int 45, .int 115, .int 117, .int 98, .int 111, .int 114, .int 100, .int 105, .int 110, .int 97, .int 116, .int 101, .int 115]) (dv := .int (0 : Int32)) etu3 (Cond.before_iff.mpr n_21) (Cond.before_iff.mpr n_22) (by decide) (by decide) (own_all21' (Cond.eq_int (Cond.value_holds n_35) (Term.int_eval (114))) (Cond.eq_int (Cond.value_holds n_36) (Term.int_eval (111))) (Cond.eq_int (Cond.value_holds n_37) (Term.int_eval (108))) (Cond.eq_int (Cond.value_holds n_38) (Term.int_eval (101))) (Cond.eq_int (Cond.value_holds n_39) (Term.int_eval (45))) (Cond.eq_int (Cond.value_holds n_40) (Term.int_eval (97))) (Cond.eq_int (Cond.value_holds n_41) (Term.int_eval (110))) (Cond.eq_int (Cond.value_holds n_42) (Term.int_eval (100))) (Cond.eq_int (Cond.value_holds n_43) (Term.int_eval (45))) (Cond.eq_int (Cond.value_holds n_44) (Term.int_eval (115))) (Cond.eq_int (Cond.value_holds n_45) (Term.int_eval (117))) (Cond.eq_int (Cond.value_holds n_46) (Term.int_eval (98))) (Cond.eq_int (Cond.value_holds n_47) (Term.int_eval (111))) (Cond.eq_int (Cond.value_holds n_48) (Term.int_eval (114))) (Cond.eq_int (Cond.value_holds n_49) (Term.int_eval (100))) (Cond.eq_int (Cond.value_holds n_50) (Term.int_eval (105))) (Cond.eq_int (Cond.value_holds n_51) (Term.int_eval (110))) (Cond.eq_int (Cond.value_holds n_52) (Term.int_eval (97))) (Cond.eq_int (Cond.value_holds n_53) (Term.int_eval (116))) (Cond.eq_int (Cond.value_holds n_54) (Term.int_eval (101))) (Cond.eq_int (Cond.value_holds n_55) (Term.int_eval (115)))) (own_all21' rfl rfl rfl rfl rfl rfl rfl rfl rfl rfl rfl rfl rfl rfl rfl rfl rfl rfl rfl rfl rfl)
  obtain ⟨ku4, eku4⟩ := exa_v n_9
  have E_ku4 := exa_at eku4 n_9
  have S_ku4 := Sta.start eku4 (Or.inr ⟨(w_90 hw), (w_107 hw)⟩)
  obtain ⟨su4, esu4⟩ := exa_v n_23
  have E_su4 := exa_at esu4 n_23
  have F_ku4 := Fld.start ((fld_at eku4).symm.trans esu4)
  have C_su4 := Fld.start ((fld_at esu4).symm.trans (Cond.eq_int (Cond.value_holds n_24) (Term.int_eval (0))))
  obtain ⟨tu4, etu4⟩ := own_arrRef n_25
  have F_su4 := Fld.start ((fld_at esu4).symm.trans etu4)
  obtain ⟨ktu4, A_tu4⟩ := own_arvT (vs := [.int 103, .int 114, .int 111, .int 117, .int 112]) (dv := .int (0 : Int32)) etu4 (Cond.before_iff.mpr n_25) (Cond.before_iff.mpr n_26) (by decide) (by decide) (own_all5' (Cond.eq_int (Cond.value_holds n_56) (Term.int_eval (103))) (Cond.eq_int (Cond.value_holds n_57) (Term.int_eval (114))) (Cond.eq_int (Cond.value_holds n_58) (Term.int_eval (111))) (Cond.eq_int (Cond.value_holds n_59) (Term.int_eval (117))) (Cond.eq_int (Cond.value_holds n_60) (Term.int_eval (112)))) (own_all5' rfl rfl rfl rfl rfl)
  obtain ⟨vva, evva⟩ := exa_v n_1
  have E_vva := exa_at evva n_1
  have S_vva := Sta.start evva (Or.inl (w_108 hw))
  obtain ⟨kvv, A_vva⟩ := own_arvT (vs := [.ref ku1, .ref ku2, .ref ku3, .ref ku4]) (dv := .null) evva (Cond.before_iff.mpr n_0) (Cond.before_iff.mpr n_2) ⟨by decide, rfl⟩ (lb rfl) (own_all4' (Cond.eq_refs (Cond.value_holds n_4) eku1 rfl) (Cond.eq_refs (Cond.value_holds n_6) eku2 rfl) (Cond.eq_refs (Cond.value_holds n_8) eku3 rfl) (Cond.eq_refs (Cond.value_holds n_10) eku4 rfl)) (own_all4' rfl rfl rfl rfl)
  obtain ⟨n, o, h1, h2, h3, _, L, rfl, ⟨N, -, rfl⟩, -, hq⟩ := rm_law (G := (⟨hw, S_zc, hzc, hEW, S_fmt, hfmt, S_oem, E_oem, F_oem, S_vva, A_vva, E_vva, S_ku1, E_ku1, F_ku1, E_su1, C_su1, F_su1, A_tu1, S_ku2, E_ku2, F_ku2, E_su2, C_su2, F_su2, A_tu2, S_ku3, E_ku3, F_ku3, E_su3, C_su3, F_su3, A_tu3, S_ku4, E_ku4, F_ku4, E_su4, C_su4, F_su4, A_tu4⟩ : GL l s _ zc fmt oem vva kvv ku1 ku2 ku3 ku4 su1 tu1 ktu1 su2 tu2 ktu2 su3 tu3 ktu3 su4 tu4 ktu4)) tables_1 i0 i1 i2 i3 i4 (Old.start s) p e ha hc hk s m _ below hf ((Spec.applies_iff_loose hf).mp happ).1 ⟨rfl, State.Warmed39.refl s, rfl, hCH0, fun _ q => nomatch q⟩ hKn0
  refine ⟨n, _, h1, h2, h3, hpost _ _ _ _ _ _ ⟨Cond.after_iff.mpr rfl, Cond.after_iff.mpr (eq_i res_at (Term.int_eval (1)) rfl), trivial⟩ ⟨hq.1, hq.2.1, hq.2.2.1, (hq.2.2.2.sift fun y hy => Or.inr (N y hy)).mono (by decide) (by decide)⟩⟩
theorem main_1_1 : Claimed_1_1 := comes_1 fun _ _ _ _ _ _ h hF => ⟨h.1, hF⟩
theorem main_1_2 : Claimed_1_2 := comes_1 fun _ _ _ _ _ _ h hF => ⟨h.2.1, hF⟩
end Jvm.Pilot.@@N@@
namespace Jvm.Pilot.@@N@@
open Jvm Jvm.ClassFile Sem Op Lib Jvm.Free Jvm.Stand Jvm.Pilot.@@N@@.Jvm.D
/-! MADE BY PROGRAM (witnessworld.py) out of the Statement's table words and the real class files: 24 classes; the members and pool entries that the words name. The judged class is class 1, her method 1. -/
namespace start1
open Jvm.ClassFile
def u (s : String) : CpInfo := .utf8 (stringToUtf16 s)
/-- a pool by its gaps: so many unusable entries, then the entry; so many at the end -/
def gap : Nat → List CpInfo → List CpInfo
  | 0, r => r
  | n + 1, r => .unusable :: gap n r
def poolList (es : List (Nat × CpInfo)) (last : Nat) : List CpInfo := es.foldr (fun e r => gap e.1 (e.2 :: r)) (gap last [])
def pool (es : List (Nat × CpInfo)) (last : Nat) : Array CpInfo := ⟨poolList es last⟩
def fileOf (pool : Array CpInfo) (this : Nat) (attrs : Array Attribute := #[]) (ms : Array MethodInfo := #[]) (fl : Nat := 33) (sup : Nat := 0) (ifs : Array Nat := #[]) (fds : Array FieldInfo := #[]) : ClassFile where
  minorVersion := 0
  majorVersion := 65
  constantPool := pool
  accessFlags := fl
  thisClass := this
  superClass := sup
  interfaces := ifs
  fields := fds
  methods := ms
  attributes := attrs
def plain (name : String) (sup : Option ClassId) : Class where
  name := name
  kind := .ordinary
  loader := none
  accessFlags := 33
  super := sup
  interfaces := #[]
  cf := none
  fields := #[]
  methods := #[]
  instanceTypes := #[]
  staticTypes := #[]
  resolved := #[]
  callSites := []
  init := .initialized
  statics := none
  mirror := none

def pool0 : Array CpInfo := pool [(5, u "<init>"), (0, u "()V"), (1, .class_ 10), (1, u "java/lang/Object"), (85, u "clone"), (0, u "()Ljava/lang/Object;")] 26

def k0c0 : Code := ⟨0, 1, object_method_1_code, #[], #[]⟩
def k0m0 : Method := ⟨"<init>", "()V", ⟨[], none⟩, 1, some k0c0⟩
def k0m1 : Method := ⟨"clone", "()Ljava/lang/Object;", ⟨[], some (.object "java/lang/Object")⟩, 260, none⟩
/-- java/lang/Object -/
def k0 : Class := { plain "java/lang/Object" none with
  accessFlags := 33
  interfaces := #[]
  cf := some (fileOf pool0 8 #[] #[⟨1, 5, 6, #[]⟩, ⟨260, 96, 97, #[]⟩] 33 0 #[] #[])
  fields := #[]
  methods := #[k0m0, k0m1]
  instanceTypes := #[]
  staticTypes := #[]
  resolved := Array.replicate 124 none
  statics := none }

def pool1 : Array CpInfo := pool [(2, .class_ 4), (1, u "java/lang/Object"), (0, u "<init>"), (0, u "()V"), (0, .string 8), (0, u "user"), (0, .string 10), (0, u "role"), (0, .string 12), (0, u "group"), (0, .string 14), (0, u "role-and-subordinates"), (0, .integer 2147483647), (0, .methodref 17 18), (0, .class_ 19), (0, .nameAndType 20 21), (0, u "com/example/hedgerow/hedgerow/setup/KindSpeltPinLaw"), (0, u "ch"), (0, u "(Ljava/lang/String;IIIIZ)C"), (0, .methodref 17 23), (0, .nameAndType 24 25), (0, u "make"), (0, u "([CI)Ljava/lang/String;"), (0, .methodref 17 27), (0, .nameAndType 28 29), (0, u "reference"), (0, u "(Ljava/lang/String;)Lcom/example/hedgerow/hedgerow/setup/Category$Kind;"), (0, .methodref 31 32), (0, .class_ 33), (0, .nameAndType 34 35), (0, u "com/example/hedgerow/hedgerow/setup/Category$Kind"), (0, u "spelt"), (0, u "(Ljava/lang/String;)Ljava/util/Optional;"), (0, .methodref 37 38), (0, .class_ 39), (0, .nameAndType 40 41), (0, u "java/util/Optional"), (0, u "orElse"), (0, u "(Ljava/lang/Object;)Ljava/lang/Object;"), (0, .methodref 43 44), (0, .class_ 45), (0, .nameAndType 46 47), (0, u "java/lang/String"), (0, u "length"), (0, u "()I"), (0, .methodref 43 49), (0, .nameAndType 50 51), (0, u "charAt"), (0, u "(I)C"), (0, .string 53), (0, u ""), (0, .methodref 43 55), (0, .nameAndType 5 56), (0, u "([C)V"), (0, .methodref 43 58), (0, .nameAndType 59 60), (0, u "equals"), (0, u "(Ljava/lang/Object;)Z"), (0, .fieldref 31 62), (0, .nameAndType 63 64), (0, u "USER"), (0, u "Lcom/example/hedgerow/hedgerow/setup/Category$Kind;"), (0, .fieldref 31 66), (0, .nameAndType 67 64), (0, u "ROLE"), (0, .fieldref 31 69), (0, .nameAndType 70 64), (0, u "GROUP"), (0, .fieldref 31 72), (0, .nameAndType 73 64), (0, u "ROLE_AND_SUBORDINATES"), (2, u "law"), (0, u "(IIIII)Z")] 9

def k1m0 : Method := ⟨"<init>", "()V", ⟨[], none⟩, 2, none⟩
def k1c1 : Code := ⟨9, 13, code, #[], #[]⟩
def k1m1 : Method := ⟨"law", "(IIIII)Z", ⟨[.int, .int, .int, .int, .int], some .boolean⟩, 9, some k1c1⟩
def k1c2 : Code := ⟨2, 6, method_3_code, #[], #[]⟩
def k1m2 : Method := ⟨"ch", "(Ljava/lang/String;IIIIZ)C", ⟨[(.object "java/lang/String"), .int, .int, .int, .int, .boolean], some .char⟩, 10, some k1c2⟩
def k1c3 : Code := ⟨7, 2, method_4_code, #[], #[]⟩
def k1m3 : Method := ⟨"make", "([CI)Ljava/lang/String;", ⟨[(.array .char), .int], some (.object "java/lang/String")⟩, 10, some k1c3⟩
def k1c4 : Code := ⟨2, 1, method_5_code, #[], #[]⟩
def k1m4 : Method := ⟨"reference", "(Ljava/lang/String;)Lcom/example/hedgerow/hedgerow/setup/Category$Kind;", ⟨[(.object "java/lang/String")], some (.object "com/example/hedgerow/hedgerow/setup/Category$Kind")⟩, 10, some k1c4⟩
/-- com/example/hedgerow/hedgerow/setup/KindSpeltPinLaw -/
def k1 : Class := { plain "com/example/hedgerow/hedgerow/setup/KindSpeltPinLaw" (some 0) with
  accessFlags := 49
  interfaces := #[]
  cf := some (fileOf pool1 17 #[] #[⟨2, 5, 6, #[]⟩, ⟨9, 76, 77, #[]⟩, ⟨10, 20, 21, #[]⟩, ⟨10, 24, 25, #[]⟩, ⟨10, 28, 29, #[]⟩] 49 2 #[] #[])
  fields := #[]
  methods := #[k1m0, k1m1, k1m2, k1m3, k1m4]
  instanceTypes := #[]
  staticTypes := #[]
  resolved := Array.replicate 87 none
  statics := none }

def pool2 : Array CpInfo := pool [(1, .class_ 2), (0, u "java/io/Serializable"), (0, .class_ 4), (0, u "java/lang/Object")] 2

/-- java/io/Serializable -/
def k2 : Class := { plain "java/io/Serializable" (some 0) with
  accessFlags := 1537
  interfaces := #[]
  cf := some (fileOf pool2 1 #[] #[] 1537 3 #[] #[])
  fields := #[]
  methods := #[]
  instanceTypes := #[]
  staticTypes := #[]
  resolved := Array.replicate 7 none
  statics := none }

def pool3 : Array CpInfo := pool [(1, .class_ 2), (0, u "java/lang/Comparable"), (0, .class_ 4), (0, u "java/lang/Object")] 7

/-- java/lang/Comparable -/
def k3 : Class := { plain "java/lang/Comparable" (some 0) with
  accessFlags := 1537
  interfaces := #[]
  cf := some (fileOf pool3 1 #[] #[] 1537 3 #[] #[])
  fields := #[]
  methods := #[]
  instanceTypes := #[]
  staticTypes := #[]
  resolved := Array.replicate 12 none
  statics := none }

def pool4 : Array CpInfo := pool [(2, .class_ 4), (1, u "java/lang/CharSequence"), (42, .class_ 48), (0, u "java/lang/CharSequence$1CodePointIterator"), (10, .class_ 60), (0, u "java/lang/CharSequence$1CharIterator"), (5, .class_ 67), (0, u "java/lang/Object")] 63

/-- java/lang/CharSequence -/
def k4 : Class := { plain "java/lang/CharSequence" (some 0) with
  accessFlags := 1537
  interfaces := #[]
  cf := some (fileOf pool4 2 #[.nestMembers #[47, 59]] #[] 1537 66 #[] #[])
  fields := #[]
  methods := #[]
  instanceTypes := #[]
  staticTypes := #[]
  resolved := Array.replicate 131 none
  statics := none }

def pool5 : Array CpInfo := pool [(1, .class_ 2), (0, u "java/lang/constant/Constable"), (0, .class_ 4), (0, u "java/lang/Object")] 6

/-- java/lang/constant/Constable -/
def k5 : Class := { plain "java/lang/constant/Constable" (some 0) with
  accessFlags := 1537
  interfaces := #[]
  cf := some (fileOf pool5 1 #[] #[] 1537 3 #[] #[])
  fields := #[]
  methods := #[]
  instanceTypes := #[]
  staticTypes := #[]
  resolved := Array.replicate 11 none
  statics := none }

def pool6 : Array CpInfo := pool [(1, .class_ 2), (0, u "java/lang/constant/ConstantDesc"), (0, .class_ 4), (0, u "java/lang/Object")] 32

/-- java/lang/constant/ConstantDesc -/
def k6 : Class := { plain "java/lang/constant/ConstantDesc" (some 0) with
  accessFlags := 1537
  interfaces := #[]
  cf := some (fileOf pool6 1 #[] #[] 1537 3 #[] #[])
  fields := #[]
  methods := #[]
  instanceTypes := #[]
  staticTypes := #[]
  resolved := Array.replicate 37 none
  statics := none }

def pool7 : Array CpInfo := pool [(1, .methodref 2 3), (0, .class_ 4), (0, .nameAndType 5 6), (0, u "java/lang/Object"), (0, u "<init>"), (0, u "()V"), (2, .fieldref 10 11), (0, .class_ 12), (0, .nameAndType 13 14), (0, u "java/lang/String"), (0, u "value"), (0, u "[B"), (0, .fieldref 10 16), (0, .nameAndType 17 18), (0, u "coder"), (0, u "B"), (2, u "hash"), (0, u "I"), (2, u "hashIsZero"), (0, u "Z"), (0, .methodref 10 28), (0, .nameAndType 5 29), (0, u "([CIILjava/lang/Void;)V"), (8, .fieldref 10 39), (0, .nameAndType 40 26), (0, u "COMPACT_STRINGS"), (1, .class_ 44), (1, u "java/lang/StringUTF16"), (0, u "compress"), (1, .methodref 42 48), (0, .nameAndType 49 50), (0, u "coderFromArrayLen"), (0, u "([BI)B"), (56, .class_ 109), (1, u "java/lang/StringLatin1"), (32, u "()Z"), (34, .methodref 42 178), (0, .nameAndType 45 179), (0, u "([CII)[B"), (154, u "()I"), (0, .methodref 10 336), (0, .nameAndType 17 337), (0, u "()B"), (25, u "([BI)C"), (27, u "(II)V"), (35, u "(I)C"), (64, .methodref 10 493), (0, .nameAndType 494 142), (0, u "isLatin1"), (0, .methodref 107 496), (0, .nameAndType 497 363), (0, u "charAt"), (3, u "checkIndex"), (5, u "length"), (33, .methodref 107 542), (0, .nameAndType 543 544), (0, u "equals"), (0, u "([B[B)Z"), (28, u "(Ljava/lang/Object;)Z"), (1, .class_ 576), (0, u "java/lang/CharSequence"), (22, u "CASE_INSENSITIVE_ORDER"), (0, u "Ljava/util/Comparator;"), (409, u "([C)V"), (42, .fieldref 1054 1055), (0, .class_ 1056), (0, .nameAndType 1057 1058), (0, u "jdk/internal/util/Preconditions"), (0, u "SIOOBE_FORMATTER"), (0, u "Ljava/util/function/BiFunction;"), (0, .methodref 1054 1060), (0, .nameAndType 501 1061), (0, u "(IILjava/util/function/BiFunction;)I"), (39, u "serialPersistentFields"), (0, u "[Ljava/io/ObjectStreamField;"), (0, .class_ 1104), (0, u "java/lang/String$CaseInsensitiveComparator"), (1, .class_ 1107), (0, u "java/io/Serializable"), (0, .class_ 1109), (0, u "java/lang/Comparable"), (0, .class_ 1111), (0, u "java/lang/constant/Constable"), (0, .class_ 1113), (0, u "java/lang/constant/ConstantDesc"), (2, u "serialVersionUID"), (0, u "J"), (3, u "REPL"), (0, u "C"), (2, u "LATIN1"), (1, u "UTF16")] 323

def k7m0 : Method := ⟨"<init>", "()V", ⟨[], none⟩, 1, none⟩
def k7c1 : Code := ⟨5, 2, jdk_42_method_3_code, #[], #[]⟩
def k7m1 : Method := ⟨"<init>", "([C)V", ⟨[(.array .char)], none⟩, 1, some k7c1⟩
def k7c2 : Code := ⟨2, 1, jdk_42_method_54_code, #[], #[]⟩
def k7m2 : Method := ⟨"length", "()I", ⟨[], some .int⟩, 1, some k7c2⟩
def k7c3 : Code := ⟨2, 2, jdk_42_method_56_code, #[], #[]⟩
def k7m3 : Method := ⟨"charAt", "(I)C", ⟨[.int], some .char⟩, 1, some k7c3⟩
def k7c4 : Code := ⟨2, 3, jdk_42_method_66_code, #[], #[]⟩
def k7m4 : Method := ⟨"equals", "(Ljava/lang/Object;)Z", ⟨[(.object "java/lang/Object")], some .boolean⟩, 1, some k7c4⟩
def k7c5 : Code := ⟨4, 6, jdk_42_method_149_code, #[], #[]⟩
def k7m5 : Method := ⟨"<init>", "([CIILjava/lang/Void;)V", ⟨[(.array .char), .int, .int, (.object "java/lang/Void")], none⟩, 2, some k7c5⟩
def k7c6 : Code := ⟨1, 1, jdk_42_method_152_code, #[], #[]⟩
def k7m6 : Method := ⟨"coder", "()B", ⟨[], some .byte⟩, 0, some k7c6⟩
def k7c7 : Code := ⟨1, 1, jdk_42_method_154_code, #[], #[]⟩
def k7m7 : Method := ⟨"isLatin1", "()Z", ⟨[], some .boolean⟩, 0, some k7c7⟩
def k7c8 : Code := ⟨3, 2, jdk_42_method_155_code, #[], #[]⟩
def k7m8 : Method := ⟨"checkIndex", "(II)V", ⟨[.int, .int], none⟩, 8, some k7c8⟩
/-- java/lang/String -/
def k7 : Class := { plain "java/lang/String" (some 0) with
  accessFlags := 49
  interfaces := #[2, 3, 4, 5, 6]
  cf := some (fileOf pool7 10 #[.nestMembers #[1103]] #[⟨1, 5, 6, #[]⟩, ⟨1, 5, 1010, #[]⟩, ⟨1, 507, 334, #[]⟩, ⟨1, 497, 427, #[]⟩, ⟨1, 543, 573, #[]⟩, ⟨2, 5, 29, #[]⟩, ⟨0, 17, 337, #[]⟩, ⟨0, 494, 142, #[]⟩, ⟨8, 501, 391, #[]⟩] 49 2 #[1106, 1108, 575, 1110, 1112] #[⟨18, 13, 14, #[]⟩, ⟨18, 17, 18, #[]⟩, ⟨2, 21, 22, #[]⟩, ⟨2, 25, 26, #[]⟩, ⟨26, 1116, 1117, #[]⟩, ⟨24, 40, 26, #[]⟩, ⟨26, 1101, 1102, #[]⟩, ⟨26, 1121, 1122, #[]⟩, ⟨25, 599, 600, #[]⟩, ⟨24, 1125, 18, #[]⟩, ⟨24, 1127, 18, #[]⟩])
  fields := #[⟨"value", (.array .byte), 18, 0, 0⟩, ⟨"coder", .byte, 18, 1, 0⟩, ⟨"hash", .int, 2, 2, 0⟩, ⟨"hashIsZero", .boolean, 2, 3, 0⟩, ⟨"serialVersionUID", .long, 26, 0, 0⟩, ⟨"COMPACT_STRINGS", .boolean, 24, 1, 0⟩, ⟨"serialPersistentFields", (.array (.object "java/io/ObjectStreamField")), 26, 2, 0⟩, ⟨"REPL", .char, 26, 3, 0⟩, ⟨"CASE_INSENSITIVE_ORDER", (.object "java/util/Comparator"), 25, 4, 0⟩, ⟨"LATIN1", .byte, 24, 5, 0⟩, ⟨"UTF16", .byte, 24, 6, 0⟩]
  methods := #[k7m0, k7m1, k7m2, k7m3, k7m4, k7m5, k7m6, k7m7, k7m8]
  instanceTypes := #[(.array .byte), .byte, .int, .boolean]
  staticTypes := #[.long, .boolean, (.array (.object "java/io/ObjectStreamField")), .char, (.object "java/util/Comparator"), .byte, .byte]
  resolved := Array.replicate 1451 none
  statics := some 0 }

def pool8 : Array CpInfo := pool [(1, .class_ 2), (0, u "java/lang/String"), (1, .class_ 6), (1, u "java/lang/Object"), (0, u "<init>"), (0, u "()V"), (0, .methodref 1 10), (0, .nameAndType 11 12), (0, u "checkIndex"), (0, u "(II)V"), (1, .class_ 16), (1, u "java/lang/StringLatin1"), (36, u "([BI)C"), (67, u "$assertionsDisabled"), (0, u "Z"), (98, .class_ 223), (1, u "java/lang/StringLatin1$LinesSpliterator"), (28, u "charAt"), (28, u "equals"), (0, u "([B[B)Z"), (107, .class_ 391), (0, u "java/lang/StringLatin1$CharsSpliterator")] 3

def k8m0 : Method := ⟨"<init>", "()V", ⟨[], none⟩, 0, none⟩
def k8c1 : Code := ⟨2, 2, jdk_43_method_2_code, #[], #[]⟩
def k8m1 : Method := ⟨"charAt", "([BI)C", ⟨[(.array .byte), .int], some .char⟩, 9, some k8c1⟩
def k8c2 : Code := ⟨3, 3, jdk_43_method_13_code, #[], #[]⟩
def k8m2 : Method := ⟨"equals", "([B[B)Z", ⟨[(.array .byte), (.array .byte)], some .boolean⟩, 9, some k8c2⟩
/-- java/lang/StringLatin1 -/
def k8 : Class := { plain "java/lang/StringLatin1" (some 0) with
  accessFlags := 48
  interfaces := #[]
  cf := some (fileOf pool8 14 #[.nestMembers #[390, 221]] #[⟨0, 7, 8, #[]⟩, ⟨9, 252, 53, #[]⟩, ⟨9, 281, 282, #[]⟩] 48 4 #[] #[⟨4120, 121, 122, #[]⟩])
  fields := #[⟨"$assertionsDisabled", .boolean, 4120, 0, 0⟩]
  methods := #[k8m0, k8m1, k8m2]
  instanceTypes := #[]
  staticTypes := #[.boolean]
  resolved := Array.replicate 395 none
  statics := none }

def pool9 : Array CpInfo := pool [(2, .class_ 4), (1, u "java/lang/Object"), (0, u "<init>"), (0, u "()V"), (17, .class_ 26), (1, u "jdk/internal/util/Preconditions"), (6, u "checkIndex"), (21, .class_ 56), (0, u "jdk/internal/util/Preconditions$4"), (57, .class_ 115), (0, u "jdk/internal/util/Preconditions$1"), (7, u "SIOOBE_FORMATTER"), (0, u "Ljava/util/function/BiFunction;"), (0, .class_ 126), (0, u "jdk/internal/util/Preconditions$2"), (3, u "AIOOBE_FORMATTER"), (0, .class_ 132), (0, u "jdk/internal/util/Preconditions$3"), (3, u "IOOBE_FORMATTER"), (41, u "(IILjava/util/function/BiFunction;)I")] 15

def k9m0 : Method := ⟨"<init>", "()V", ⟨[], none⟩, 1, none⟩
def k9c1 : Code := ⟨3, 3, jdk_41_method_11_code, #[], #[]⟩
def k9m1 : Method := ⟨"checkIndex", "(IILjava/util/function/BiFunction;)I", ⟨[.int, .int, (.object "java/util/function/BiFunction")], some .int⟩, 9, some k9c1⟩
/-- jdk/internal/util/Preconditions -/
def k9 : Class := { plain "jdk/internal/util/Preconditions" (some 0) with
  accessFlags := 33
  interfaces := #[]
  cf := some (fileOf pool9 24 #[.nestMembers #[55, 131, 125, 114]] #[⟨1, 5, 6, #[]⟩, ⟨9, 33, 178, #[]⟩] 33 2 #[] #[⟨25, 123, 124, #[]⟩, ⟨25, 130, 124, #[]⟩, ⟨25, 136, 124, #[]⟩])
  fields := #[⟨"SIOOBE_FORMATTER", (.object "java/util/function/BiFunction"), 25, 0, 0⟩, ⟨"AIOOBE_FORMATTER", (.object "java/util/function/BiFunction"), 25, 1, 0⟩, ⟨"IOOBE_FORMATTER", (.object "java/util/function/BiFunction"), 25, 2, 0⟩]
  methods := #[k9m0, k9m1]
  instanceTypes := #[]
  staticTypes := #[(.object "java/util/function/BiFunction"), (.object "java/util/function/BiFunction"), (.object "java/util/function/BiFunction")]
  resolved := Array.replicate 194 none
  statics := some 1 }

def pool10 : Array CpInfo := pool [(6, .class_ 8), (1, u "java/lang/Object"), (0, u "<init>"), (0, u "()V"), (1, .class_ 14), (1, u "java/lang/StringUTF16"), (31, u "$assertionsDisabled"), (0, u "Z"), (13, u "HI_BYTE_SHIFT"), (0, u "I"), (2, u "LO_BYTE_SHIFT"), (49, .methodref 12 116), (0, .nameAndType 117 118), (0, u "compress"), (0, u "([CI[BII)I"), (3, u "([CII)[B"), (138, u "coderFromArrayLen"), (0, u "([BI)B"), (106, .class_ 371), (1, u "java/lang/StringUTF16$LinesSpliterator"), (58, u "MAX_LENGTH"), (196, .class_ 628), (0, u "java/lang/StringUTF16$CodePointsSpliterator"), (0, .class_ 630), (0, u "java/lang/StringUTF16$CharsSpliterator")] 4

def k10m0 : Method := ⟨"<init>", "()V", ⟨[], none⟩, 0, none⟩
def k10c1 : Code := ⟨2, 2, jdk_52_method_15_code, #[], #[]⟩
def k10m1 : Method := ⟨"coderFromArrayLen", "([BI)B", ⟨[(.array .byte), .int], some .byte⟩, 8, some k10c1⟩
def k10c2 : Code := ⟨5, 6, jdk_52_method_16_code, #[], #[]⟩
def k10m2 : Method := ⟨"compress", "([CII)[B", ⟨[(.array .char), .int, .int], some (.array .byte)⟩, 9, some k10c2⟩
def k10c3 : Code := ⟨3, 7, jdk_52_method_21_code, #[], #[]⟩
def k10m3 : Method := ⟨"compress", "([CI[BII)I", ⟨[(.array .char), .int, (.array .byte), .int, .int], some .int⟩, 9, some k10c3⟩
/-- java/lang/StringUTF16 -/
def k10 : Class := { plain "java/lang/StringUTF16" (some 0) with
  accessFlags := 48
  interfaces := #[]
  cf := some (fileOf pool10 12 #[.nestMembers #[627, 629, 369]] #[⟨0, 9, 10, #[]⟩, ⟨8, 261, 262, #[]⟩, ⟨9, 117, 122, #[]⟩, ⟨9, 117, 118, #[]⟩] 48 6 #[] #[⟨26, 61, 62, #[]⟩, ⟨26, 65, 62, #[]⟩, ⟨24, 430, 62, #[]⟩, ⟨4120, 46, 47, #[]⟩])
  fields := #[⟨"HI_BYTE_SHIFT", .int, 26, 0, 0⟩, ⟨"LO_BYTE_SHIFT", .int, 26, 1, 0⟩, ⟨"MAX_LENGTH", .int, 24, 2, 0⟩, ⟨"$assertionsDisabled", .boolean, 4120, 3, 0⟩]
  methods := #[k10m0, k10m1, k10m2, k10m3]
  instanceTypes := #[]
  staticTypes := #[.int, .int, .int, .boolean]
  resolved := Array.replicate 635 none
  statics := none }

def pool11 : Array CpInfo := pool [(2, .class_ 4), (1, u "java/lang/Enum"), (0, u "name"), (0, u "Ljava/lang/String;"), (2, u "ordinal"), (0, u "I"), (1, .class_ 14), (1, u "java/lang/Object"), (4, u "hash"), (86, .class_ 108), (1, u "java/lang/Enum$EnumDesc"), (2, .class_ 112), (0, u "java/lang/constant/Constable"), (0, .class_ 114), (0, u "java/lang/Comparable"), (0, .class_ 116), (0, u "java/io/Serializable")] 87

/-- java/lang/Enum -/
def k11 : Class := { plain "java/lang/Enum" (some 0) with
  accessFlags := 1057
  interfaces := #[5, 3, 2]
  cf := some (fileOf pool11 2 #[.nestMembers #[106]] #[] 1057 12 #[111, 113, 115] #[⟨18, 5, 6, #[]⟩, ⟨18, 9, 10, #[]⟩, ⟨2, 19, 10, #[]⟩])
  fields := #[⟨"name", (.object "java/lang/String"), 18, 0, 0⟩, ⟨"ordinal", .int, 18, 1, 0⟩, ⟨"hash", .int, 2, 2, 0⟩]
  methods := #[]
  instanceTypes := #[(.object "java/lang/String"), .int, .int]
  staticTypes := #[]
  resolved := Array.replicate 204 none
  statics := none }

def pool12 : Array CpInfo := pool [(1, .class_ 2), (0, u "com/example/hedgerow/hedgerow/setup/Category$Kind"), (2, u "USER"), (0, u "Lcom/example/hedgerow/hedgerow/setup/Category$Kind;"), (2, u "ROLE"), (2, u "ROLE_AND_SUBORDINATES"), (2, u "GROUP"), (0, .fieldref 1 17), (0, .nameAndType 18 19), (0, u "$VALUES"), (0, u "[Lcom/example/hedgerow/hedgerow/setup/Category$Kind;"), (0, .methodref 21 22), (0, .class_ 19), (0, .nameAndType 23 24), (0, u "clone"), (0, u "()Ljava/lang/Object;"), (1, .class_ 28), (1, u "java/lang/Enum"), (8, u "key"), (0, u "Ljava/lang/String;"), (0, .fieldref 1 40), (0, .nameAndType 41 38), (0, u "spelling"), (2, u "names"), (0, .methodref 1 46), (0, .nameAndType 47 48), (0, u "values"), (0, u "()[Lcom/example/hedgerow/hedgerow/setup/Category$Kind;"), (0, .methodref 50 51), (0, .class_ 52), (0, .nameAndType 53 54), (0, u "java/lang/String"), (0, u "equals"), (0, u "(Ljava/lang/Object;)Z"), (0, .methodref 56 57), (0, .class_ 58), (0, .nameAndType 59 60), (0, u "java/util/Optional"), (0, u "of"), (0, u "(Ljava/lang/Object;)Ljava/util/Optional;"), (0, .methodref 56 62), (0, .nameAndType 63 64), (0, u "empty"), (0, u "()Ljava/util/Optional;"), (61, u "spelt"), (0, u "(Ljava/lang/String;)Ljava/util/Optional;"), (13, .class_ 142), (0, u "com/example/hedgerow/hedgerow/setup/Category")] 48

def k12c0 : Code := ⟨1, 0, prog_15_method_1_code, #[], #[]⟩
def k12m0 : Method := ⟨"values", "()[Lcom/example/hedgerow/hedgerow/setup/Category$Kind;", ⟨[], some (.array (.object "com/example/hedgerow/hedgerow/setup/Category$Kind"))⟩, 9, some k12c0⟩
def k12c1 : Code := ⟨2, 5, prog_15_method_4_code, #[], #[]⟩
def k12m1 : Method := ⟨"spelt", "(Ljava/lang/String;)Ljava/util/Optional;", ⟨[(.object "java/lang/String")], some (.object "java/util/Optional")⟩, 9, some k12c1⟩
/-- com/example/hedgerow/hedgerow/setup/Category$Kind -/
def k12 : Class := { plain "com/example/hedgerow/hedgerow/setup/Category$Kind" (some 11) with
  accessFlags := 16433
  interfaces := #[]
  cf := some (fileOf pool12 1 #[.nestHost 141] #[⟨9, 47, 48, #[]⟩, ⟨9, 126, 127, #[]⟩] 16433 26 #[] #[⟨16409, 5, 6, #[]⟩, ⟨16409, 9, 6, #[]⟩, ⟨16409, 12, 6, #[]⟩, ⟨16409, 15, 6, #[]⟩, ⟨18, 37, 38, #[]⟩, ⟨18, 41, 38, #[]⟩, ⟨18, 44, 38, #[]⟩, ⟨4122, 18, 19, #[]⟩])
  fields := #[⟨"USER", (.object "com/example/hedgerow/hedgerow/setup/Category$Kind"), 16409, 0, 0⟩, ⟨"ROLE", (.object "com/example/hedgerow/hedgerow/setup/Category$Kind"), 16409, 1, 0⟩, ⟨"ROLE_AND_SUBORDINATES", (.object "com/example/hedgerow/hedgerow/setup/Category$Kind"), 16409, 2, 0⟩, ⟨"GROUP", (.object "com/example/hedgerow/hedgerow/setup/Category$Kind"), 16409, 3, 0⟩, ⟨"key", (.object "java/lang/String"), 18, 3, 0⟩, ⟨"spelling", (.object "java/lang/String"), 18, 4, 0⟩, ⟨"names", (.object "java/lang/String"), 18, 5, 0⟩, ⟨"$VALUES", (.array (.object "com/example/hedgerow/hedgerow/setup/Category$Kind")), 4122, 4, 0⟩]
  methods := #[k12m0, k12m1]
  instanceTypes := #[(.object "java/lang/String"), .int, .int, (.object "java/lang/String"), (.object "java/lang/String"), (.object "java/lang/String")]
  staticTypes := #[(.object "com/example/hedgerow/hedgerow/setup/Category$Kind"), (.object "com/example/hedgerow/hedgerow/setup/Category$Kind"), (.object "com/example/hedgerow/hedgerow/setup/Category$Kind"), (.object "com/example/hedgerow/hedgerow/setup/Category$Kind"), (.array (.object "com/example/hedgerow/hedgerow/setup/Category$Kind"))]
  resolved := Array.replicate 191 none
  statics := some 2 }

def pool13 : Array CpInfo := pool [(1, .class_ 2), (0, u "java/lang/Cloneable"), (0, .class_ 4), (0, u "java/lang/Object")] 2

/-- java/lang/Cloneable -/
def k13 : Class := { plain "java/lang/Cloneable" (some 0) with
  accessFlags := 1537
  interfaces := #[]
  cf := some (fileOf pool13 1 #[] #[] 1537 3 #[] #[])
  fields := #[]
  methods := #[]
  instanceTypes := #[]
  staticTypes := #[]
  resolved := Array.replicate 7 none
  statics := none }

def pool14 : Array CpInfo := pool [(1, .fieldref 2 3), (0, .class_ 4), (0, .nameAndType 5 6), (0, u "java/util/Optional"), (0, u "EMPTY"), (0, u "Ljava/util/Optional;"), (0, .methodref 8 9), (0, .class_ 10), (0, .nameAndType 11 12), (0, u "java/lang/Object"), (0, u "<init>"), (0, u "()V"), (0, .fieldref 2 14), (0, .nameAndType 15 16), (0, u "value"), (0, u "Ljava/lang/Object;"), (0, .methodref 18 19), (0, .class_ 20), (0, .nameAndType 21 22), (0, u "java/util/Objects"), (0, u "requireNonNull"), (0, u "(Ljava/lang/Object;)Ljava/lang/Object;"), (0, .methodref 2 24), (0, .nameAndType 11 25), (0, u "(Ljava/lang/Object;)V"), (29, u "empty"), (0, u "()Ljava/util/Optional;"), (8, u "(Ljava/lang/Object;)Ljava/util/Optional;"), (16, u "of"), (82, u "orElse")] 21

def k14c0 : Code := ⟨1, 1, jdk_32_method_1_code, #[], #[]⟩
def k14m0 : Method := ⟨"empty", "()Ljava/util/Optional;", ⟨[], some (.object "java/util/Optional")⟩, 9, some k14c0⟩
def k14c1 : Code := ⟨2, 2, jdk_32_method_2_code, #[], #[]⟩
def k14m1 : Method := ⟨"<init>", "(Ljava/lang/Object;)V", ⟨[(.object "java/lang/Object")], none⟩, 2, some k14c1⟩
def k14c2 : Code := ⟨3, 1, jdk_32_method_3_code, #[], #[]⟩
def k14m2 : Method := ⟨"of", "(Ljava/lang/Object;)Ljava/util/Optional;", ⟨[(.object "java/lang/Object")], some (.object "java/util/Optional")⟩, 9, some k14c2⟩
def k14c3 : Code := ⟨1, 2, jdk_32_method_15_code, #[], #[]⟩
def k14m3 : Method := ⟨"orElse", "(Ljava/lang/Object;)Ljava/lang/Object;", ⟨[(.object "java/lang/Object")], some (.object "java/lang/Object")⟩, 1, some k14c3⟩
/-- java/util/Optional -/
def k14 : Class := { plain "java/util/Optional" (some 0) with
  accessFlags := 49
  interfaces := #[]
  cf := some (fileOf pool14 2 #[] #[⟨9, 55, 56, #[]⟩, ⟨2, 11, 25, #[]⟩, ⟨9, 82, 65, #[]⟩, ⟨1, 165, 22, #[]⟩] 49 8 #[] #[⟨26, 5, 6, #[]⟩, ⟨18, 15, 16, #[]⟩])
  fields := #[⟨"EMPTY", (.object "java/util/Optional"), 26, 0, 0⟩, ⟨"value", (.object "java/lang/Object"), 18, 0, 0⟩]
  methods := #[k14m0, k14m1, k14m2, k14m3]
  instanceTypes := #[(.object "java/lang/Object")]
  staticTypes := #[(.object "java/util/Optional")]
  resolved := Array.replicate 187 none
  statics := some 3 }

def pool15 : Array CpInfo := pool [(2, .class_ 4), (1, u "java/lang/Object"), (0, u "<init>"), (0, u "()V"), (35, .class_ 44), (1, u "java/util/Objects"), (0, u "requireNonNull"), (0, u "(Ljava/lang/Object;)Ljava/lang/Object;")] 137

def k15m0 : Method := ⟨"<init>", "()V", ⟨[], none⟩, 2, none⟩
def k15c1 : Code := ⟨2, 1, jdk_31_method_10_code, #[], #[]⟩
def k15m1 : Method := ⟨"requireNonNull", "(Ljava/lang/Object;)Ljava/lang/Object;", ⟨[(.object "java/lang/Object")], some (.object "java/lang/Object")⟩, 9, some k15c1⟩
/-- java/util/Objects -/
def k15 : Class := { plain "java/util/Objects" (some 0) with
  accessFlags := 49
  interfaces := #[]
  cf := some (fileOf pool15 42 #[] #[⟨2, 5, 6, #[]⟩, ⟨9, 45, 46, #[]⟩] 49 2 #[] #[])
  fields := #[]
  methods := #[k15m0, k15m1]
  instanceTypes := #[]
  staticTypes := #[]
  resolved := Array.replicate 184 none
  statics := none }

def pool16 : Array CpInfo := pool [(9, u "<init>"), (6, .class_ 18), (1, u "java/lang/Object"), (0, u "()V"), (1, .class_ 23), (1, u "jdk/internal/util/ArraysSupport"), (0, u "LOG2_ARRAY_LONG_INDEX_SCALE"), (0, u "I"), (2, u "U"), (0, u "Ljdk/internal/misc/Unsafe;"), (8, u "BIG_ENDIAN"), (0, u "Z"), (8, u "LOG2_BYTE_BIT_SIZE"), (4, u "LOG2_ARRAY_INT_INDEX_SCALE"), (54, u "JLA"), (0, u "Ljdk/internal/access/JavaLangAccess;"), (11, u "LOG2_ARRAY_BOOLEAN_INDEX_SCALE"), (9, u "LOG2_ARRAY_BYTE_INDEX_SCALE"), (5, u "LOG2_ARRAY_CHAR_INDEX_SCALE"), (5, u "LOG2_ARRAY_SHORT_INDEX_SCALE"), (18, u "LOG2_ARRAY_FLOAT_INDEX_SCALE"), (24, u "LOG2_ARRAY_DOUBLE_INDEX_SCALE"), (89, u "T_BOOLEAN"), (2, u "T_CHAR"), (1, u "T_FLOAT"), (1, u "T_DOUBLE"), (1, u "T_BYTE"), (1, u "T_SHORT"), (1, u "T_INT"), (1, u "T_LONG"), (1, u "SOFT_MAX_ARRAY_LENGTH")] 83

def k16m0 : Method := ⟨"<init>", "()V", ⟨[], none⟩, 2, none⟩
/-- jdk/internal/util/ArraysSupport -/
def k16 : Class := { plain "jdk/internal/util/ArraysSupport" (some 0) with
  accessFlags := 33
  interfaces := #[]
  cf := some (fileOf pool16 21 #[] #[⟨2, 9, 19, #[]⟩] 33 16 #[] #[⟨24, 28, 29, #[]⟩, ⟨26, 38, 39, #[]⟩, ⟨25, 121, 25, #[]⟩, ⟨25, 131, 25, #[]⟩, ⟨25, 137, 25, #[]⟩, ⟨25, 143, 25, #[]⟩, ⟨25, 53, 25, #[]⟩, ⟨25, 24, 25, #[]⟩, ⟨25, 162, 25, #[]⟩, ⟨25, 187, 25, #[]⟩, ⟨26, 48, 25, #[]⟩, ⟨25, 277, 25, #[]⟩, ⟨25, 280, 25, #[]⟩, ⟨25, 282, 25, #[]⟩, ⟨25, 284, 25, #[]⟩, ⟨25, 286, 25, #[]⟩, ⟨25, 288, 25, #[]⟩, ⟨25, 290, 25, #[]⟩, ⟨25, 292, 25, #[]⟩, ⟨26, 108, 109, #[]⟩, ⟨25, 294, 25, #[]⟩])
  fields := #[⟨"U", (.object "jdk/internal/misc/Unsafe"), 24, 0, 0⟩, ⟨"BIG_ENDIAN", .boolean, 26, 1, 0⟩, ⟨"LOG2_ARRAY_BOOLEAN_INDEX_SCALE", .int, 25, 2, 0⟩, ⟨"LOG2_ARRAY_BYTE_INDEX_SCALE", .int, 25, 3, 0⟩, ⟨"LOG2_ARRAY_CHAR_INDEX_SCALE", .int, 25, 4, 0⟩, ⟨"LOG2_ARRAY_SHORT_INDEX_SCALE", .int, 25, 5, 0⟩, ⟨"LOG2_ARRAY_INT_INDEX_SCALE", .int, 25, 6, 0⟩, ⟨"LOG2_ARRAY_LONG_INDEX_SCALE", .int, 25, 7, 0⟩, ⟨"LOG2_ARRAY_FLOAT_INDEX_SCALE", .int, 25, 8, 0⟩, ⟨"LOG2_ARRAY_DOUBLE_INDEX_SCALE", .int, 25, 9, 0⟩, ⟨"LOG2_BYTE_BIT_SIZE", .int, 26, 10, 0⟩, ⟨"T_BOOLEAN", .int, 25, 11, 0⟩, ⟨"T_CHAR", .int, 25, 12, 0⟩, ⟨"T_FLOAT", .int, 25, 13, 0⟩, ⟨"T_DOUBLE", .int, 25, 14, 0⟩, ⟨"T_BYTE", .int, 25, 15, 0⟩, ⟨"T_SHORT", .int, 25, 16, 0⟩, ⟨"T_INT", .int, 25, 17, 0⟩, ⟨"T_LONG", .int, 25, 18, 0⟩, ⟨"JLA", (.object "jdk/internal/access/JavaLangAccess"), 26, 19, 0⟩, ⟨"SOFT_MAX_ARRAY_LENGTH", .int, 25, 20, 0⟩]
  methods := #[k16m0]
  instanceTypes := #[]
  staticTypes := #[(.object "jdk/internal/misc/Unsafe"), .boolean, .int, .int, .int, .int, .int, .int, .int, .int, .int, .int, .int, .int, .int, .int, .int, .int, .int, (.object "jdk/internal/access/JavaLangAccess"), .int]
  resolved := Array.replicate 378 none
  statics := none }

/-- the primitive byte -/
def k17 : Class := { plain "byte" none with kind := .primitive 'B', accessFlags := 0x411 }
/-- [B -/
def k18 : Class := { plain "[B" (some 0) with kind := .array 17 .byte, interfaces := #[13, 2], accessFlags := 1041 }

/-- the primitive char -/
def k19 : Class := { plain "char" none with kind := .primitive 'C', accessFlags := 0x411 }
/-- [C -/
def k20 : Class := { plain "[C" (some 0) with kind := .array 19 .char, interfaces := #[13, 2], accessFlags := 1041 }

/-- the primitive int -/
def k21 : Class := { plain "int" none with kind := .primitive 'I', accessFlags := 0x411 }
/-- [I -/
def k22 : Class := { plain "[I" (some 0) with kind := .array 21 .int, interfaces := #[13, 2], accessFlags := 1041 }

/-- [Lcom/example/hedgerow/hedgerow/setup/Category$Kind; -/
def k23 : Class := { plain "[Lcom/example/hedgerow/hedgerow/setup/Category$Kind;" (some 0) with kind := .array 12 (.object "com/example/hedgerow/hedgerow/setup/Category$Kind"), interfaces := #[13, 2], accessFlags := 1041 }

def heap : Heap := #[{ cls := 7, slots := #[.long 0, .int 1, .null, .int 0, .null, .int 0, .int 0], vm := .statics 7 },
  { cls := 9, slots := #[.null, .null, .null], vm := .statics 9 },
  { cls := 12, slots := #[.ref 5, .ref 6, .ref 7, .ref 8, .ref 4], vm := .statics 12 },
  { cls := 14, slots := #[.ref 17], vm := .statics 14 },
  { cls := 23, slots := #[.ref 5, .ref 6, .ref 7, .ref 8], vm := .none },
  { cls := 12, slots := #[.null, .int 0, .int 0, .null, .ref 9, .null], vm := .none },
  { cls := 12, slots := #[.null, .int 1, .int 0, .null, .ref 10, .null], vm := .none },
  { cls := 12, slots := #[.null, .int 2, .int 0, .null, .ref 11, .null], vm := .none },
  { cls := 12, slots := #[.null, .int 3, .int 0, .null, .ref 12, .null], vm := .none },
  { cls := 7, slots := #[.ref 13, .int 0, .int 0, .int 0], vm := .none },
  { cls := 7, slots := #[.ref 14, .int 0, .int 0, .int 0], vm := .none },
  { cls := 7, slots := #[.ref 15, .int 0, .int 0, .int 0], vm := .none },
  { cls := 7, slots := #[.ref 16, .int 0, .int 0, .int 0], vm := .none },
  { cls := 18, slots := #[.int 117, .int 115, .int 101, .int 114], vm := .none },
  { cls := 18, slots := #[.int 114, .int 111, .int 108, .int 101], vm := .none },
  { cls := 18, slots := #[.int 114, .int 111, .int 108, .int 101, .int 45, .int 97, .int 110, .int 100, .int 45, .int 115, .int 117, .int 98, .int 111, .int 114, .int 100, .int 105, .int 110, .int 97, .int 116, .int 101, .int 115], vm := .none },
  { cls := 18, slots := #[.int 103, .int 114, .int 111, .int 117, .int 112], vm := .none },
  { cls := 14, slots := #[.null], vm := .none }]
def classes : Array Class := #[k0, k1, k2, k3, k4, k5, k6, k7, k8, k9, k10, k11, k12, k13, k14, k15, k16, k17, k18, k19, k20, k21, k22, k23]
def interned : List (Array UInt16 × Addr) := []
def slotsUsed : Nat := 95
def theMethod : MethodId := ⟨1, 1⟩
def args0 : Array Value := #[.int 1, .int 2, .int 3, .int 4, .int 5]
def aboutOver (below : List Frame) : State where
  vm := { classes := classes, interned := interned.toArray }
  heap := heap
  slotsUsed := slotsUsed
  threads := #[{ frames := .invoking theMethod args0 :: below }]
def below0 : List Frame := [.native { method := ⟨0, 0⟩, args := #[] }]
def about1 : State := aboutOver below0
def p0 : Program := .bare "" "" ""
def e0 : Env := launch0.env 0 0 0
theorem w_frames : about1.frames = Frame.invoking theMethod args0 :: below0 := rfl
set_option maxRecDepth 65536 in
theorem w_args : argsFit about1.vm theMethod args0 = true := by decide +kernel
set_option maxRecDepth 65536 in
theorem w_heap : heapFits about1 = true := by decide +kernel
set_option maxRecDepth 65536 in
theorem w_runnable : about1.curStatus? = some .runnable := by decide +kernel
set_option maxRecDepth 65536 in
theorem w_alone : about1.alone = true := by decide +kernel
set_option maxRecDepth 65536 in
theorem w_named : about1.methodNamed? x = some theMethod := by decide +kernel
set_option maxRecDepth 65536 in
theorem w_hears : about1.hears theMethod below0 = true := by decide +kernel
set_option maxRecDepth 65536 in
theorem w_ripe : about1.ripe theMethod args0 below0 = true := by decide +kernel
theorem w_running : about1.status = .running := rfl
set_option maxRecDepth 65536 in
theorem w_room : about1.hasRoom e0.platform room_1 = true :=
  launch0.hasRoom_least _ room_1 (by decide +kernel) (by decide +kernel) (by decide +kernel) (by decide +kernel) (by decide +kernel) (by decide +kernel)
theorem allAtoms_all (ts : List Jvm.Cond) (a : Array Jvm.Value) (st : Jvm.State) : (allAtoms ts).before a st = ts.all (fun c => c.before a st) := by
  induction ts with
  | nil => rfl
  | cons c t ih =>
    show (Jvm.Cond.and c (allAtoms t)).before a st = _
    rw [Jvm.Cond.before_and, ih, List.all_cons]
def words1 : List Jvm.Cond := Jvm.Cond.code x code maxLocals ret :: tables_1
/-- a 'code' word, met by the world's own term for the bytes: nothing is compared byte by byte -/
theorem code_word {y : MethodName} {bytes : ByteArray} {mx : Nat} {rt : Option FieldType} {a : Array Value} {s : State} {m : MethodId} {meth : Method} {c : Code} (h1 : s.methodNamed? y = some m) (h2 : s.vm.method? m = some meth) (h3 : meth.code = some c) (h4 : c.code = bytes)
    (h5 : (c.maxLocals == mx && c.exceptionTable.isEmpty && decide (c.maxStack ≤ mostOperands) && decide (meth.sig.returnType = rt) && !meth.locks && decide (parseMethodDescriptor y.desc = some meth.sig)) = true) : (Jvm.Cond.code y bytes mx rt).before a s = true := by
  simp only [Bool.and_eq_true, beq_iff_eq, Bool.not_eq_true', decide_eq_true_eq] at h5
  obtain ⟨⟨⟨⟨⟨g1, g2⟩, g3⟩, g4⟩, g5⟩, g6⟩ := h5
  simp [Cond.before, Cond.holds, Cond.value, h1, h2, h3, h4, g1, g2, g3, g4, g5, g6]
def isCode : Jvm.Cond → Bool
  | .code _ _ _ _ => true
  | _ => false
theorem all_split {L : List Jvm.Cond} {P : Jvm.Cond → Bool} (h1 : L.all (fun c => isCode c || P c) = true) (h2 : ∀ c ∈ L.filter isCode, P c = true) : L.all P = true := by
  refine List.all_eq_true.mpr fun c hc => ?_
  have h := List.all_eq_true.mp h1 c hc
  rcases Bool.eq_false_or_eq_true (isCode c) with hi | hi
  · exact h2 c (List.mem_filter.mpr ⟨hc, hi⟩)
  · simpa [hi] using h
set_option maxRecDepth 65536 in
theorem w_c0 : (Jvm.Cond.code x code maxLocals ret).before args0 about1 = true := code_word (m := ⟨1, 1⟩) (meth := k1m1) (c := k1c1) (by decide +kernel) rfl rfl rfl (by decide +kernel)
set_option maxRecDepth 65536 in
theorem w_c1 : (Jvm.Cond.code ({ cls := "com/example/hedgerow/hedgerow/setup/KindSpeltPinLaw", name := "ch", desc := "(Ljava/lang/String;IIIIZ)C" } : Jvm.MethodName) method_3_code (6 : Nat) (Option.some Jvm.ClassFile.FieldType.char)).before args0 about1 = true := code_word (m := ⟨1, 2⟩) (meth := k1m2) (c := k1c2) (by decide +kernel) rfl rfl rfl (by decide +kernel)
set_option maxRecDepth 65536 in
theorem w_c2 : (Jvm.Cond.code ({ cls := "java/lang/String", name := "length", desc := "()I" } : Jvm.MethodName) jdk_42_method_54_code (1 : Nat) (Option.some Jvm.ClassFile.FieldType.int)).before args0 about1 = true := code_word (m := ⟨7, 2⟩) (meth := k7m2) (c := k7c2) (by decide +kernel) rfl rfl rfl (by decide +kernel)
set_option maxRecDepth 65536 in
theorem w_c3 : (Jvm.Cond.code ({ cls := "java/lang/String", name := "coder", desc := "()B" } : Jvm.MethodName) jdk_42_method_152_code (1 : Nat) (Option.some Jvm.ClassFile.FieldType.byte)).before args0 about1 = true := code_word (m := ⟨7, 6⟩) (meth := k7m6) (c := k7c6) (by decide +kernel) rfl rfl rfl (by decide +kernel)
set_option maxRecDepth 65536 in
theorem w_c4 : (Jvm.Cond.code ({ cls := "java/lang/String", name := "charAt", desc := "(I)C" } : Jvm.MethodName) jdk_42_method_56_code (2 : Nat) (Option.some Jvm.ClassFile.FieldType.char)).before args0 about1 = true := code_word (m := ⟨7, 3⟩) (meth := k7m3) (c := k7c3) (by decide +kernel) rfl rfl rfl (by decide +kernel)
set_option maxRecDepth 65536 in
theorem w_c5 : (Jvm.Cond.code ({ cls := "java/lang/String", name := "isLatin1", desc := "()Z" } : Jvm.MethodName) jdk_42_method_154_code (1 : Nat) (Option.some Jvm.ClassFile.FieldType.boolean)).before args0 about1 = true := code_word (m := ⟨7, 7⟩) (meth := k7m7) (c := k7c7) (by decide +kernel) rfl rfl rfl (by decide +kernel)
set_option maxRecDepth 65536 in
theorem w_c6 : (Jvm.Cond.code ({ cls := "java/lang/StringLatin1", name := "charAt", desc := "([BI)C" } : Jvm.MethodName) jdk_43_method_2_code (2 : Nat) (Option.some Jvm.ClassFile.FieldType.char)).before args0 about1 = true := code_word (m := ⟨8, 1⟩) (meth := k8m1) (c := k8c1) (by decide +kernel) rfl rfl rfl (by decide +kernel)
set_option maxRecDepth 65536 in
theorem w_c7 : (Jvm.Cond.code ({ cls := "java/lang/String", name := "checkIndex", desc := "(II)V" } : Jvm.MethodName) jdk_42_method_155_code (2 : Nat) (Option.none : Option Jvm.ClassFile.FieldType)).before args0 about1 = true := code_word (m := ⟨7, 8⟩) (meth := k7m8) (c := k7c8) (by decide +kernel) rfl rfl rfl (by decide +kernel)
set_option maxRecDepth 65536 in
theorem w_c8 : (Jvm.Cond.code ({ cls := "jdk/internal/util/Preconditions", name := "checkIndex", desc := "(IILjava/util/function/BiFunction;)I" } : Jvm.MethodName) jdk_41_method_11_code (3 : Nat) (Option.some Jvm.ClassFile.FieldType.int)).before args0 about1 = true := code_word (m := ⟨9, 1⟩) (meth := k9m1) (c := k9c1) (by decide +kernel) rfl rfl rfl (by decide +kernel)
set_option maxRecDepth 65536 in
theorem w_c9 : (Jvm.Cond.code ({ cls := "com/example/hedgerow/hedgerow/setup/KindSpeltPinLaw", name := "make", desc := "([CI)Ljava/lang/String;" } : Jvm.MethodName) method_4_code (2 : Nat) (Option.some (Jvm.ClassFile.FieldType.object "java/lang/String"))).before args0 about1 = true := code_word (m := ⟨1, 3⟩) (meth := k1m3) (c := k1c3) (by decide +kernel) rfl rfl rfl (by decide +kernel)
set_option maxRecDepth 65536 in
theorem w_c10 : (Jvm.Cond.code ({ cls := "java/lang/String", name := "<init>", desc := "([C)V" } : Jvm.MethodName) jdk_42_method_3_code (2 : Nat) (Option.none : Option Jvm.ClassFile.FieldType)).before args0 about1 = true := code_word (m := ⟨7, 1⟩) (meth := k7m1) (c := k7c1) (by decide +kernel) rfl rfl rfl (by decide +kernel)
set_option maxRecDepth 65536 in
theorem w_c11 : (Jvm.Cond.code ({ cls := "java/lang/String", name := "<init>", desc := "([CIILjava/lang/Void;)V" } : Jvm.MethodName) jdk_42_method_149_code (6 : Nat) (Option.none : Option Jvm.ClassFile.FieldType)).before args0 about1 = true := code_word (m := ⟨7, 5⟩) (meth := k7m5) (c := k7c5) (by decide +kernel) rfl rfl rfl (by decide +kernel)
set_option maxRecDepth 65536 in
theorem w_c12 : (Jvm.Cond.code ({ cls := "java/lang/Object", name := "<init>", desc := "()V" } : Jvm.MethodName) object_method_1_code (1 : Nat) (Option.none : Option Jvm.ClassFile.FieldType)).before args0 about1 = true := code_word (m := ⟨0, 0⟩) (meth := k0m0) (c := k0c0) (by decide +kernel) rfl rfl rfl (by decide +kernel)
set_option maxRecDepth 65536 in
theorem w_c13 : (Jvm.Cond.code ({ cls := "java/lang/StringUTF16", name := "compress", desc := "([CII)[B" } : Jvm.MethodName) jdk_52_method_16_code (6 : Nat) (Option.some (Jvm.ClassFile.FieldType.array Jvm.ClassFile.FieldType.byte))).before args0 about1 = true := code_word (m := ⟨10, 2⟩) (meth := k10m2) (c := k10c2) (by decide +kernel) rfl rfl rfl (by decide +kernel)
set_option maxRecDepth 65536 in
theorem w_c14 : (Jvm.Cond.code ({ cls := "java/lang/StringUTF16", name := "compress", desc := "([CI[BII)I" } : Jvm.MethodName) jdk_52_method_21_code (7 : Nat) (Option.some Jvm.ClassFile.FieldType.int)).before args0 about1 = true := code_word (m := ⟨10, 3⟩) (meth := k10m3) (c := k10c3) (by decide +kernel) rfl rfl rfl (by decide +kernel)
set_option maxRecDepth 65536 in
theorem w_c15 : (Jvm.Cond.code ({ cls := "java/lang/StringUTF16", name := "coderFromArrayLen", desc := "([BI)B" } : Jvm.MethodName) jdk_52_method_15_code (2 : Nat) (Option.some Jvm.ClassFile.FieldType.byte)).before args0 about1 = true := code_word (m := ⟨10, 1⟩) (meth := k10m1) (c := k10c1) (by decide +kernel) rfl rfl rfl (by decide +kernel)
set_option maxRecDepth 65536 in
theorem w_c16 : (Jvm.Cond.code ({ cls := "com/example/hedgerow/hedgerow/setup/KindSpeltPinLaw", name := "reference", desc := "(Ljava/lang/String;)Lcom/example/hedgerow/hedgerow/setup/Category$Kind;" } : Jvm.MethodName) method_5_code (1 : Nat) (Option.some (Jvm.ClassFile.FieldType.object "com/example/hedgerow/hedgerow/setup/Category$Kind"))).before args0 about1 = true := code_word (m := ⟨1, 4⟩) (meth := k1m4) (c := k1c4) (by decide +kernel) rfl rfl rfl (by decide +kernel)
set_option maxRecDepth 65536 in
theorem w_c17 : (Jvm.Cond.code ({ cls := "java/lang/String", name := "equals", desc := "(Ljava/lang/Object;)Z" } : Jvm.MethodName) jdk_42_method_66_code (3 : Nat) (Option.some Jvm.ClassFile.FieldType.boolean)).before args0 about1 = true := code_word (m := ⟨7, 4⟩) (meth := k7m4) (c := k7c4) (by decide +kernel) rfl rfl rfl (by decide +kernel)
set_option maxRecDepth 65536 in
theorem w_c18 : (Jvm.Cond.code ({ cls := "java/lang/StringLatin1", name := "equals", desc := "([B[B)Z" } : Jvm.MethodName) jdk_43_method_13_code (3 : Nat) (Option.some Jvm.ClassFile.FieldType.boolean)).before args0 about1 = true := code_word (m := ⟨8, 2⟩) (meth := k8m2) (c := k8c2) (by decide +kernel) rfl rfl rfl (by decide +kernel)
set_option maxRecDepth 65536 in
theorem w_c19 : (Jvm.Cond.code ({ cls := "com/example/hedgerow/hedgerow/setup/Category$Kind", name := "spelt", desc := "(Ljava/lang/String;)Ljava/util/Optional;" } : Jvm.MethodName) prog_15_method_4_code (5 : Nat) (Option.some (Jvm.ClassFile.FieldType.object "java/util/Optional"))).before args0 about1 = true := code_word (m := ⟨12, 1⟩) (meth := k12m1) (c := k12c1) (by decide +kernel) rfl rfl rfl (by decide +kernel)
set_option maxRecDepth 65536 in
theorem w_c20 : (Jvm.Cond.code ({ cls := "com/example/hedgerow/hedgerow/setup/Category$Kind", name := "values", desc := "()[Lcom/example/hedgerow/hedgerow/setup/Category$Kind;" } : Jvm.MethodName) prog_15_method_1_code (0 : Nat) (Option.some (Jvm.ClassFile.FieldType.array (Jvm.ClassFile.FieldType.object "com/example/hedgerow/hedgerow/setup/Category$Kind")))).before args0 about1 = true := code_word (m := ⟨12, 0⟩) (meth := k12m0) (c := k12c0) (by decide +kernel) rfl rfl rfl (by decide +kernel)
set_option maxRecDepth 65536 in
theorem w_c21 : (Jvm.Cond.code ({ cls := "java/util/Optional", name := "empty", desc := "()Ljava/util/Optional;" } : Jvm.MethodName) jdk_32_method_1_code (1 : Nat) (Option.some (Jvm.ClassFile.FieldType.object "java/util/Optional"))).before args0 about1 = true := code_word (m := ⟨14, 0⟩) (meth := k14m0) (c := k14c0) (by decide +kernel) rfl rfl rfl (by decide +kernel)
set_option maxRecDepth 65536 in
theorem w_c22 : (Jvm.Cond.code ({ cls := "java/util/Optional", name := "orElse", desc := "(Ljava/lang/Object;)Ljava/lang/Object;" } : Jvm.MethodName) jdk_32_method_15_code (2 : Nat) (Option.some (Jvm.ClassFile.FieldType.object "java/lang/Object"))).before args0 about1 = true := code_word (m := ⟨14, 3⟩) (meth := k14m3) (c := k14c3) (by decide +kernel) rfl rfl rfl (by decide +kernel)
set_option maxRecDepth 65536 in
theorem w_c23 : (Jvm.Cond.code ({ cls := "java/util/Optional", name := "of", desc := "(Ljava/lang/Object;)Ljava/util/Optional;" } : Jvm.MethodName) jdk_32_method_3_code (1 : Nat) (Option.some (Jvm.ClassFile.FieldType.object "java/util/Optional"))).before args0 about1 = true := code_word (m := ⟨14, 2⟩) (meth := k14m2) (c := k14c2) (by decide +kernel) rfl rfl rfl (by decide +kernel)
set_option maxRecDepth 65536 in
theorem w_c24 : (Jvm.Cond.code ({ cls := "java/util/Objects", name := "requireNonNull", desc := "(Ljava/lang/Object;)Ljava/lang/Object;" } : Jvm.MethodName) jdk_31_method_10_code (1 : Nat) (Option.some (Jvm.ClassFile.FieldType.object "java/lang/Object"))).before args0 about1 = true := code_word (m := ⟨15, 1⟩) (meth := k15m1) (c := k15c1) (by decide +kernel) rfl rfl rfl (by decide +kernel)
set_option maxRecDepth 65536 in
theorem w_c25 : (Jvm.Cond.code ({ cls := "java/util/Optional", name := "<init>", desc := "(Ljava/lang/Object;)V" } : Jvm.MethodName) jdk_32_method_2_code (2 : Nat) (Option.none : Option Jvm.ClassFile.FieldType)).before args0 about1 = true := code_word (m := ⟨14, 1⟩) (meth := k14m1) (c := k14c1) (by decide +kernel) rfl rfl rfl (by decide +kernel)
def codes1 : List Jvm.Cond := [Jvm.Cond.code x code maxLocals ret, Jvm.Cond.code ({ cls := "com/example/hedgerow/hedgerow/setup/KindSpeltPinLaw", name := "ch", desc := "(Ljava/lang/String;IIIIZ)C" } : Jvm.MethodName) method_3_code (6 : Nat) (Option.some Jvm.ClassFile.FieldType.char), Jvm.Cond.code ({ cls := "java/lang/String", name := "length", desc := "()I" } : Jvm.MethodName) jdk_42_method_54_code (1 : Nat) (Option.some Jvm.ClassFile.FieldType.int), Jvm.Cond.code ({ cls := "java/lang/String", name := "coder", desc := "()B" } : Jvm.MethodName) jdk_42_method_152_code (1 : Nat) (Option.some Jvm.ClassFile.FieldType.byte), Jvm.Cond.code ({ cls := "java/lang/String", name := "charAt", desc := "(I)C" } : Jvm.MethodName) jdk_42_method_56_code (2 : Nat) (Option.some Jvm.ClassFile.FieldType.char), Jvm.Cond.code ({ cls := "java/lang/String", name := "isLatin1", desc := "()Z" } : Jvm.MethodName) jdk_42_method_154_code (1 : Nat) (Option.some Jvm.ClassFile.FieldType.boolean), Jvm.Cond.code ({ cls := "java/lang/StringLatin1", name := "charAt", desc := "([BI)C" } : Jvm.MethodName) jdk_43_method_2_code (2 : Nat) (Option.some Jvm.ClassFile.FieldType.char), Jvm.Cond.code ({ cls := "java/lang/String", name := "checkIndex", desc := "(II)V" } : Jvm.MethodName) jdk_42_method_155_code (2 : Nat) (Option.none : Option Jvm.ClassFile.FieldType), Jvm.Cond.code ({ cls := "jdk/internal/util/Preconditions", name := "checkIndex", desc := "(IILjava/util/function/BiFunction;)I" } : Jvm.MethodName) jdk_41_method_11_code (3 : Nat) (Option.some Jvm.ClassFile.FieldType.int), Jvm.Cond.code ({ cls := "com/example/hedgerow/hedgerow/setup/KindSpeltPinLaw", name := "make", desc := "([CI)Ljava/lang/String;" } : Jvm.MethodName) method_4_code (2 : Nat) (Option.some (Jvm.ClassFile.FieldType.object "java/lang/String")), Jvm.Cond.code ({ cls := "java/lang/String", name := "<init>", desc := "([C)V" } : Jvm.MethodName) jdk_42_method_3_code (2 : Nat) (Option.none : Option Jvm.ClassFile.FieldType), Jvm.Cond.code ({ cls := "java/lang/String", name := "<init>", desc := "([CIILjava/lang/Void;)V" } : Jvm.MethodName) jdk_42_method_149_code (6 : Nat) (Option.none : Option Jvm.ClassFile.FieldType), Jvm.Cond.code ({ cls := "java/lang/Object", name := "<init>", desc := "()V" } : Jvm.MethodName) object_method_1_code (1 : Nat) (Option.none : Option Jvm.ClassFile.FieldType), Jvm.Cond.code ({ cls := "java/lang/StringUTF16", name := "compress", desc := "([CII)[B" } : Jvm.MethodName) jdk_52_method_16_code (6 : Nat) (Option.some (Jvm.ClassFile.FieldType.array Jvm.ClassFile.FieldType.byte)), Jvm.Cond.code ({ cls := "java/lang/StringUTF16", name := "compress", desc := "([CI[BII)I" } : Jvm.MethodName) jdk_52_method_21_code (7 : Nat) (Option.some Jvm.ClassFile.FieldType.int), Jvm.Cond.code ({ cls := "java/lang/StringUTF16", name := "coderFromArrayLen", desc := "([BI)B" } : Jvm.MethodName) jdk_52_method_15_code (2 : Nat) (Option.some Jvm.ClassFile.FieldType.byte), Jvm.Cond.code ({ cls := "com/example/hedgerow/hedgerow/setup/KindSpeltPinLaw", name := "reference", desc := "(Ljava/lang/String;)Lcom/example/hedgerow/hedgerow/setup/Category$Kind;" } : Jvm.MethodName) method_5_code (1 : Nat) (Option.some (Jvm.ClassFile.FieldType.object "com/example/hedgerow/hedgerow/setup/Category$Kind")), Jvm.Cond.code ({ cls := "java/lang/String", name := "equals", desc := "(Ljava/lang/Object;)Z" } : Jvm.MethodName) jdk_42_method_66_code (3 : Nat) (Option.some Jvm.ClassFile.FieldType.boolean), Jvm.Cond.code ({ cls := "java/lang/StringLatin1", name := "equals", desc := "([B[B)Z" } : Jvm.MethodName) jdk_43_method_13_code (3 : Nat) (Option.some Jvm.ClassFile.FieldType.boolean), Jvm.Cond.code ({ cls := "com/example/hedgerow/hedgerow/setup/Category$Kind", name := "spelt", desc := "(Ljava/lang/String;)Ljava/util/Optional;" } : Jvm.MethodName) prog_15_method_4_code (5 : Nat) (Option.some (Jvm.ClassFile.FieldType.object "java/util/Optional")), Jvm.Cond.code ({ cls := "com/example/hedgerow/hedgerow/setup/Category$Kind", name := "values", desc := "()[Lcom/example/hedgerow/hedgerow/setup/Category$Kind;" } : Jvm.MethodName) prog_15_method_1_code (0 : Nat) (Option.some (Jvm.ClassFile.FieldType.array (Jvm.ClassFile.FieldType.object "com/example/hedgerow/hedgerow/setup/Category$Kind"))), Jvm.Cond.code ({ cls := "java/util/Optional", name := "empty", desc := "()Ljava/util/Optional;" } : Jvm.MethodName) jdk_32_method_1_code (1 : Nat) (Option.some (Jvm.ClassFile.FieldType.object "java/util/Optional")), Jvm.Cond.code ({ cls := "java/util/Optional", name := "orElse", desc := "(Ljava/lang/Object;)Ljava/lang/Object;" } : Jvm.MethodName) jdk_32_method_15_code (2 : Nat) (Option.some (Jvm.ClassFile.FieldType.object "java/lang/Object")), Jvm.Cond.code ({ cls := "java/util/Optional", name := "of", desc := "(Ljava/lang/Object;)Ljava/util/Optional;" } : Jvm.MethodName) jdk_32_method_3_code (1 : Nat) (Option.some (Jvm.ClassFile.FieldType.object "java/util/Optional")), Jvm.Cond.code ({ cls := "java/util/Objects", name := "requireNonNull", desc := "(Ljava/lang/Object;)Ljava/lang/Object;" } : Jvm.MethodName) jdk_31_method_10_code (1 : Nat) (Option.some (Jvm.ClassFile.FieldType.object "java/lang/Object")), Jvm.Cond.code ({ cls := "java/util/Optional", name := "<init>", desc := "(Ljava/lang/Object;)V" } : Jvm.MethodName) jdk_32_method_2_code (2 : Nat) (Option.none : Option Jvm.ClassFile.FieldType)]
set_option maxRecDepth 65536 in
theorem codes_eq : words1.filter isCode = codes1 := rfl
theorem w_codes : ∀ c ∈ words1.filter isCode, c.before args0 about1 = true := by
  rw [codes_eq]
  intro c hc
  simp only [codes1, List.mem_cons, List.not_mem_nil, or_false] at hc
  rcases hc with rfl | rfl | rfl | rfl | rfl | rfl | rfl | rfl | rfl | rfl | rfl | rfl | rfl | rfl | rfl | rfl | rfl | rfl | rfl | rfl | rfl | rfl | rfl | rfl | rfl | rfl
  · exact w_c0
  · exact w_c1
  · exact w_c2
  · exact w_c3
  · exact w_c4
  · exact w_c5
  · exact w_c6
  · exact w_c7
  · exact w_c8
  · exact w_c9
  · exact w_c10
  · exact w_c11
  · exact w_c12
  · exact w_c13
  · exact w_c14
  · exact w_c15
  · exact w_c16
  · exact w_c17
  · exact w_c18
  · exact w_c19
  · exact w_c20
  · exact w_c21
  · exact w_c22
  · exact w_c23
  · exact w_c24
  · exact w_c25
set_option maxRecDepth 65536 in
theorem w_t1 : (words1.take 24).all (fun c => isCode c || c.before args0 about1) = true := by decide +kernel
set_option maxRecDepth 65536 in
theorem w_t2 : ((words1.drop 24).take 24).all (fun c => isCode c || c.before args0 about1) = true := by decide +kernel
set_option maxRecDepth 65536 in
theorem w_t3 : (((words1.drop 24).drop 24).take 24).all (fun c => isCode c || c.before args0 about1) = true := by decide +kernel
set_option maxRecDepth 65536 in
theorem w_t4 : ((((words1.drop 24).drop 24).drop 24).take 24).all (fun c => isCode c || c.before args0 about1) = true := by decide +kernel
set_option maxRecDepth 65536 in
theorem w_t5 : (((((words1.drop 24).drop 24).drop 24).drop 24).take 24).all (fun c => isCode c || c.before args0 about1) = true := by decide +kernel
set_option maxRecDepth 65536 in
theorem w_t6 : ((((((words1.drop 24).drop 24).drop 24).drop 24).drop 24).take 24).all (fun c => isCode c || c.before args0 about1) = true := by decide +kernel
set_option maxRecDepth 65536 in
theorem w_t7 : ((((((words1.drop 24).drop 24).drop 24).drop 24).drop 24).drop 24).all (fun c => isCode c || c.before args0 about1) = true := by decide +kernel
theorem w_tables : (allAtoms (Jvm.Cond.code x code maxLocals ret :: tables_1)).before args0 about1 = true := by
  rw [allAtoms_all]
  show words1.all (fun c => c.before args0 about1) = true
  refine all_split ?_ w_codes
  rw [← List.take_append_drop 24 words1, List.all_append, w_t1, ← List.take_append_drop 24 (words1.drop 24), List.all_append, w_t2, ← List.take_append_drop 24 ((words1.drop 24).drop 24), List.all_append, w_t3, ← List.take_append_drop 24 (((words1.drop 24).drop 24).drop 24), List.all_append, w_t4, ← List.take_append_drop 24 ((((words1.drop 24).drop 24).drop 24).drop 24), List.all_append, w_t5, ← List.take_append_drop 24 (((((words1.drop 24).drop 24).drop 24).drop 24).drop 24), List.all_append, w_t6, w_t7]
  rfl
set_option maxRecDepth 65536 in
theorem w_rest : rest_1_c.before args0 about1 = true := by decide +kernel
set_option maxRecDepth 65536 in
theorem w_case : (Jvm.Cond.and given_1 narrow_1).before args0 about1 = true := by decide +kernel
set_option maxRecDepth 65536 in
theorem w_consts : constsHeld consts_1 about1 := Jvm.Lit.constsHeldB_iff.mp (by decide +kernel)
theorem w_applies : (headSpec (Jvm.Cond.code x code maxLocals ret :: tables_1) room_1).applies x e0.platform about1 = true :=
  (Spec.applies_iff w_frames).mpr ⟨w_running, w_runnable, w_alone, w_named, w_hears, w_ripe, w_room, w_tables⟩
theorem atStart : AtStart classFile x code maxLocals ret World_1 tables_1 room_1 Calls_1 rest_1 Pre_1 launch0 p0 e0 about1 theMethod args0 below0 :=
  ⟨lists_1, trivial, launch0.admits_env _ _ _, launch0.least_env, fairChoices_fair.cas, fairChoices_fair.clock, w_frames, w_args, w_heap, w_applies, ⟨w_consts, trivial⟩, w_rest, w_case⟩
end start1
theorem witness_1 : WitnessClaimed_1 := ⟨start1.p0, start1.e0, start1.about1, start1.theMethod, start1.args0, start1.below0, start1.atStart⟩
end Jvm.Pilot.@@N@@
