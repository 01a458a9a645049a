import JvmDerived
import JvmDerived.Pilot.@@N@@Statement
import JvmDerived.Pilot.@@N@@Code
set_option linter.unusedVariables false
set_option linter.unusedSimpArgs false

namespace Jvm.OwnKit
open Sem ClassFile Op Lib Jvm.Stand Jvm.Free Jvm.LawKit Jvm.RoadKit
/-! ## What is owed from a state on, and where a walk stands: one bundle a walk -/
def Go (tb : Tables) (e : Env) (below : List Frame) (P : Outcome → State → Prop) (A : State) : Prop := ∃ s₂ o, Steps tb e below A s₂ ∧ s₂.status = .running ∧ Ended s₂ below o ∧ P o s₂
theorem Go.go {tb : Tables} {e : Env} {below : List Frame} {P : Outcome → State → Prop} {A B : State} (st : ∀ t, Steps tb e below B t → Steps tb e below A t) (k : Go tb e below P B) : Go tb e below P A := by
  obtain ⟨s2, o, h, r⟩ := k
  exact ⟨s2, o, st _ h, r⟩
theorem Go.cast {tb : Tables} {e : Env} {below : List Frame} {P : Outcome → State → Prop} {T : State} {g g' : JFrame} (q : g = g') (k : Go tb e below P (T.setTop g')) : Go tb e below P (T.setTop g) := q ▸ k
def QQ (h0 : Heap) (n0 : Nat) (ws : List Addr) (Po : Option Value → Heap → Vm → Prop) (v : Option Value) (h : Heap) (vm : Vm) (L : List Loc) : Prop := Fr n0 L ∧ Keep h0 h ws ∧ Po v h vm
def PO (s : State) (R : Room) (h0 : Heap) (n0 : Nat) (ws : List Addr) (Z : State) (EL : List (String × Nat)) (Po : Option Value → Heap → Vm → Prop) (o : Outcome) (t : State) : Prop := ∃ v L, o = .returned v ∧ QQ h0 n0 ws Po v t.heap t.vm L ∧ CHr Z EL s.vm s.heap t.vm t.heap ∧ ReturnedEndW s o t L R.cells R.slots
def KnP (kn : Bool) (vm : Vm) (below : List Frame) : Prop := kn = true → vm.MethodsKnown ∧ vm.FramesKnown below
theorem KnP.alike {kn : Bool} {vm vm' : Vm} {below : List Frame} (h : KnP kn vm below) (ha : vm.Alike vm') : KnP kn vm' below := fun q => ⟨Vm.MethodsKnown.alikeC ha (h q).1, Vm.FramesKnown.alikeC ha (h q).2⟩
def Met (l : Launch) (y : MethodName) (bytes : ByteArray) (maxL : Nat) (ret : Option FieldType) (wl : List Cond) (rm : Room) (Z : State) (as' : Array Value) (h0 : Heap) (n0 : Nat) (ws : List Addr) (EL : List (String × Nat)) (kn : Bool) (sf : List Addr) (Po : Option Value → Heap → Vm → Prop) : Prop :=
  MetFree l y (head1 (Cond.code y bytes maxL ret :: wl) rm) (fun a U => a = as' ∧ Z.Warmed39 U.vm ∧ U.heap = h0 ∧ CHv Z EL U.vm h0 ∧ ∀ x ∈ sf, Safe Z EL U.vm h0 x) (fun _ _ bl s _ => KnP kn s.vm bl) (fun _ U o U' => ∃ v L, o = .returned v ∧ QQ h0 n0 ws Po v U'.heap U'.vm L ∧ CHr Z EL U.vm U.heap U'.vm U'.heap ∧ ReturnedEndW U o U' L rm.cells rm.slots)
def Here (p : Program) (l : Launch) (e : Env) (R : Room) (s : State) (m : MethodId) (args : Array Value) (below : List Frame) (meth : Method) (c : Code) (Z : State) (bytes : ByteArray) (maxL : Nat) (ret : Option FieldType) (own nm : String) (h0 : Heap) (n0 : Nat) (ws : List Addr) (EL : List (String × Nat)) (kn : Bool)
    (T : State) (h : Heap) (vm0 : Vm) (cells slots : Nat) : Prop :=
  ∃ k0 locs, Stand p l e R (s.setVm vm0) m args below meth c T locs cells slots ∧ Fr n0 locs ∧ T.heap = h ∧ Old Z n0 h ∧ Keep h0 h ws ∧ p.tables.exec = Jvm.exec ∧ c.code = bytes ∧ c.maxLocals = maxL ∧ meth.sig.returnType = ret ∧ meth.locks = false ∧ vm0.findClass own = some m.cls ∧ meth.name = nm ∧ Z.Warmed39 vm0 ∧ s.Since vm0 k0 ∧ k0 ≤ h.size ∧ CHr Z EL s.vm h0 vm0 h ∧ (∃ a1, EW Z a1 EL) ∧ KnP kn vm0 below ∧ s.heap = h0
section Kit
variable {p : Program} {l : Launch} {e : Env} {R : Room} {s : State} {m : MethodId} {args : Array Value} {below : List Frame} {meth : Method} {c : Code} {Z : State} {bytes : ByteArray} {maxL : Nat} {ret : Option FieldType} {own nm : String} {h0 : Heap} {n0 : Nat} {ws : List Addr} {T : State} {h : Heap} {cells slots : Nat} {P : Outcome → State → Prop} {pc pc' : Nat} {Ls : Array Slot} {st rest : List Value} {a0 : Array Value} {EL : List (String × Nat)} {kn : Bool} {vm0 : Vm} {sf : List Addr}
theorem met_intro {y : MethodName} {wl : List Cond} {as' : Array Value} {Po : Option Value → Heap → Vm → Prop} (hpn : plainName own = true) (hc0 : y.cls = own) (hn0 : y.name = nm) (O : Old Z n0 h0) (hew : EW Z a0 EL)
    (body : ∀ p e s m below meth c s₁, Here p l e R s m as' below meth c Z bytes maxL ret own nm h0 n0 ws EL kn s₁ h0 s.vm 0 0 → (∀ x ∈ sf, Safe Z EL s.vm h0 x) → Go p.tables e below (PO s R h0 n0 ws Z EL Po) (s₁.setTop (entryFrame m as' maxL))) : Met l y bytes maxL ret wl R Z as' h0 n0 ws EL kn sf Po := by
  subst hc0 hn0
  refine MetFree.of_bodySF (plainFor_of_name hpn) hisR ?_
  intro p e s m args below meth c s₁ Bd hml0 hP hK
  obtain ⟨rfl, hZ, hh, hCH, hsf⟩ := hP
  have e0 : s₁.heap = h0 := by rw [← hh, Bd.state]; rfl
  exact body p e s m below meth c s₁ ⟨h0.size, [], Stand.of_body Bd, Fr.nil n0, e0, O, Keep.refl h0 ws, Bd.exec, Bd.bytes, hml0, Bd.returns, BodyLoose.notSynchronized Bd, findClass_of_methodNamed Bd.named, (name_of_methodNamed Bd.named Bd.method).1, hZ, (State.WarmedH.refl s).since _, Nat.le_refl _, CHr.refl hCH, ⟨a0, hew⟩, hK, hh⟩ hsf
theorem Here.old (X : Here p l e R s m args below meth c Z bytes maxL ret own nm h0 n0 ws EL kn T h vm0 cells slots) : Old Z n0 h := by obtain ⟨_, _, _, _, _, q, _⟩ := X; exact q
theorem Here.keep (X : Here p l e R s m args below meth c Z bytes maxL ret own nm h0 n0 ws EL kn T h vm0 cells slots) : Keep h0 h ws := by obtain ⟨_, _, _, _, _, _, q, _⟩ := X; exact q
theorem Here.zv (X : Here p l e R s m args below meth c Z bytes maxL ret own nm h0 n0 ws EL kn T h vm0 cells slots) : Z.Warmed39 vm0 := by obtain ⟨_, _, _, _, _, _, _, _, _, _, _, _, _, _, q, _⟩ := X; exact q
theorem Here.al (X : Here p l e R s m args below meth c Z bytes maxL ret own nm h0 n0 ws EL kn T h vm0 cells slots) : Z.vm.Alike vm0 := X.zv.alike
theorem Here.n0le (X : Here p l e R s m args below meth c Z bytes maxL ret own nm h0 n0 ws EL kn T h vm0 cells slots) : n0 ≤ h.size := by have q := X.old; rw [← q.1]; exact q.2.1
theorem Here.szle (X : Here p l e R s m args below meth c Z bytes maxL ret own nm h0 n0 ws EL kn T h vm0 cells slots) : h0.size ≤ h.size := X.keep.1
theorem o_iloadN {k : Fin 4} {v : Int32} (X : Here p l e R s m args below meth c Z bytes maxL ret own nm h0 n0 ws EL kn T h vm0 cells slots) (hd : decode bytes pc = .ok (.iload_n k, 1)) (hp : pc + 1 = pc') (hl : Ls[k.val]? = some (.val (.int v)))
    (k : Go p.tables e below P (T.setTop (mkF m pc' Ls (.int v :: st)))) : Go p.tables e below P (T.setTop (mkF m pc Ls st)) := by
  obtain ⟨k0, locs, Y, N, eT, O, K, hx, hby, hml, hret, hlk, hown, hnm, hZ, hS, hk, hC, hEW, hKn, hsh⟩ := X
  subst hp
  exact Go.go (fun t q => XS.iloadN Y.here hx rfl (hb hby hd) hl q) k
theorem o_iload {k : Nat} {v : Int32} (X : Here p l e R s m args below meth c Z bytes maxL ret own nm h0 n0 ws EL kn T h vm0 cells slots) (hd : decode bytes pc = .ok (.iload k, 2)) (hp : pc + 2 = pc') (hl : Ls[k]? = some (.val (.int v)))
    (k : Go p.tables e below P (T.setTop (mkF m pc' Ls (.int v :: st)))) : Go p.tables e below P (T.setTop (mkF m pc Ls st)) := by
  obtain ⟨k0, locs, Y, N, eT, O, K, hx, hby, hml, hret, hlk, hown, hnm, hZ, hS, hk, hC, hEW, hKn, hsh⟩ := X
  subst hp
  exact Go.go (fun t q => XS.iload Y.here hx rfl (hb hby hd) hl q) k
theorem o_lloadN {k : Fin 4} {v : Int64} (X : Here p l e R s m args below meth c Z bytes maxL ret own nm h0 n0 ws EL kn T h vm0 cells slots) (hd : decode bytes pc = .ok (.lload_n k, 1)) (hp : pc + 1 = pc') (hl : Ls[k.val]? = some (.val (.long v)))
    (k : Go p.tables e below P (T.setTop (mkF m pc' Ls (.long v :: st)))) : Go p.tables e below P (T.setTop (mkF m pc Ls st)) := by
  obtain ⟨k0, locs, Y, N, eT, O, K, hx, hby, hml, hret, hlk, hown, hnm, hZ, hS, hk, hC, hEW, hKn, hsh⟩ := X
  subst hp
  exact Go.go (fun t q => XS.lloadN Y.here hx rfl (hb hby hd) hl q) k
theorem o_lload {k : Nat} {v : Int64} (X : Here p l e R s m args below meth c Z bytes maxL ret own nm h0 n0 ws EL kn T h vm0 cells slots) (hd : decode bytes pc = .ok (.lload k, 2)) (hp : pc + 2 = pc') (hl : Ls[k]? = some (.val (.long v)))
    (k : Go p.tables e below P (T.setTop (mkF m pc' Ls (.long v :: st)))) : Go p.tables e below P (T.setTop (mkF m pc Ls st)) := by
  obtain ⟨k0, locs, Y, N, eT, O, K, hx, hby, hml, hret, hlk, hown, hnm, hZ, hS, hk, hC, hEW, hKn, hsh⟩ := X
  subst hp
  exact Go.go (fun t q => XS.lload Y.here hx rfl (hb hby hd) hl q) k
theorem o_aloadN {k : Fin 4} {v : Value} (X : Here p l e R s m args below meth c Z bytes maxL ret own nm h0 n0 ws EL kn T h vm0 cells slots) (hd : decode bytes pc = .ok (.aload_n k, 1)) (hp : pc + 1 = pc') (hl : Ls[k.val]? = some (.val v)) (hv : v.isRef = true)
    (k : Go p.tables e below P (T.setTop (mkF m pc' Ls (v :: st)))) : Go p.tables e below P (T.setTop (mkF m pc Ls st)) := by
  obtain ⟨k0, locs, Y, N, eT, O, K, hx, hby, hml, hret, hlk, hown, hnm, hZ, hS, hk, hC, hEW, hKn, hsh⟩ := X
  subst hp
  exact Go.go (fun t q => XS.aloadN Y.here hx rfl (hb hby hd) hl hv q) k
theorem o_aload {k : Nat} {v : Value} (X : Here p l e R s m args below meth c Z bytes maxL ret own nm h0 n0 ws EL kn T h vm0 cells slots) (hd : decode bytes pc = .ok (.aload k, 2)) (hp : pc + 2 = pc') (hl : Ls[k]? = some (.val v)) (hv : v.isRef = true)
    (k : Go p.tables e below P (T.setTop (mkF m pc' Ls (v :: st)))) : Go p.tables e below P (T.setTop (mkF m pc Ls st)) := by
  obtain ⟨k0, locs, Y, N, eT, O, K, hx, hby, hml, hret, hlk, hown, hnm, hZ, hS, hk, hC, hEW, hKn, hsh⟩ := X
  subst hp
  exact Go.go (fun t q => XS.aload Y.here hx rfl (hb hby hd) hl hv q) k
theorem o_istoreN {k : Fin 4} {x : Int32} {l' : Array Slot} (X : Here p l e R s m args below meth c Z bytes maxL ret own nm h0 n0 ws EL kn T h vm0 cells slots) (hd : decode bytes pc = .ok (.istore_n k, 1)) (hp : pc + 1 = pc') (hl : storeLocals Ls k.val (.int x) = some l')
    (k : Go p.tables e below P (T.setTop (mkF m pc' l' st))) : Go p.tables e below P (T.setTop (mkF m pc Ls (.int x :: st))) := by
  obtain ⟨k0, locs, Y, N, eT, O, K, hx, hby, hml, hret, hlk, hown, hnm, hZ, hS, hk, hC, hEW, hKn, hsh⟩ := X
  subst hp
  exact Go.go (fun t q => XS.istoreN Y.here hx rfl (hb hby hd) rfl hl q) k
theorem o_istore {k : Nat} {x : Int32} {l' : Array Slot} (X : Here p l e R s m args below meth c Z bytes maxL ret own nm h0 n0 ws EL kn T h vm0 cells slots) (hd : decode bytes pc = .ok (.istore k, 2)) (hp : pc + 2 = pc') (hl : storeLocals Ls k (.int x) = some l')
    (k : Go p.tables e below P (T.setTop (mkF m pc' l' st))) : Go p.tables e below P (T.setTop (mkF m pc Ls (.int x :: st))) := by
  obtain ⟨k0, locs, Y, N, eT, O, K, hx, hby, hml, hret, hlk, hown, hnm, hZ, hS, hk, hC, hEW, hKn, hsh⟩ := X
  subst hp
  exact Go.go (fun t q => XS.istore Y.here hx rfl (hb hby hd) rfl hl q) k
theorem o_lstoreN {k : Fin 4} {x : Int64} {l' : Array Slot} (X : Here p l e R s m args below meth c Z bytes maxL ret own nm h0 n0 ws EL kn T h vm0 cells slots) (hd : decode bytes pc = .ok (.lstore_n k, 1)) (hp : pc + 1 = pc') (hl : storeLocals Ls k.val (.long x) = some l')
    (k : Go p.tables e below P (T.setTop (mkF m pc' l' st))) : Go p.tables e below P (T.setTop (mkF m pc Ls (.long x :: st))) := by
  obtain ⟨k0, locs, Y, N, eT, O, K, hx, hby, hml, hret, hlk, hown, hnm, hZ, hS, hk, hC, hEW, hKn, hsh⟩ := X
  subst hp
  exact Go.go (fun t q => XS.lstoreN Y.here hx rfl (hb hby hd) rfl hl q) k
theorem o_lstore {k : Nat} {x : Int64} {l' : Array Slot} (X : Here p l e R s m args below meth c Z bytes maxL ret own nm h0 n0 ws EL kn T h vm0 cells slots) (hd : decode bytes pc = .ok (.lstore k, 2)) (hp : pc + 2 = pc') (hl : storeLocals Ls k (.long x) = some l')
    (k : Go p.tables e below P (T.setTop (mkF m pc' l' st))) : Go p.tables e below P (T.setTop (mkF m pc Ls (.long x :: st))) := by
  obtain ⟨k0, locs, Y, N, eT, O, K, hx, hby, hml, hret, hlk, hown, hnm, hZ, hS, hk, hC, hEW, hKn, hsh⟩ := X
  subst hp
  exact Go.go (fun t q => XS.lstore Y.here hx rfl (hb hby hd) rfl hl q) k
theorem o_astoreN {k : Fin 4} {v : Value} {l' : Array Slot} (X : Here p l e R s m args below meth c Z bytes maxL ret own nm h0 n0 ws EL kn T h vm0 cells slots) (hd : decode bytes pc = .ok (.astore_n k, 1)) (hp : pc + 1 = pc') (hv : v.isRef = true) (hl : storeLocals Ls k.val v = some l')
    (k : Go p.tables e below P (T.setTop (mkF m pc' l' st))) : Go p.tables e below P (T.setTop (mkF m pc Ls (v :: st))) := by
  obtain ⟨k0, locs, Y, N, eT, O, K, hx, hby, hml, hret, hlk, hown, hnm, hZ, hS, hk, hC, hEW, hKn, hsh⟩ := X
  subst hp
  exact Go.go (fun t q => XS.astoreN Y.here hx rfl (hb hby hd) rfl hv hl q) k
theorem o_astore {k : Nat} {v : Value} {l' : Array Slot} (X : Here p l e R s m args below meth c Z bytes maxL ret own nm h0 n0 ws EL kn T h vm0 cells slots) (hd : decode bytes pc = .ok (.astore k, 2)) (hp : pc + 2 = pc') (hv : v.isRef = true) (hl : storeLocals Ls k v = some l')
    (k : Go p.tables e below P (T.setTop (mkF m pc' l' st))) : Go p.tables e below P (T.setTop (mkF m pc Ls (v :: st))) := by
  obtain ⟨k0, locs, Y, N, eT, O, K, hx, hby, hml, hret, hlk, hown, hnm, hZ, hS, hk, hC, hEW, hKn, hsh⟩ := X
  subst hp
  exact Go.go (fun t q => XS.astore Y.here hx rfl (hb hby hd) rfl hv hl q) k
theorem o_iconst {i : Int} {v : Int32} (X : Here p l e R s m args below meth c Z bytes maxL ret own nm h0 n0 ws EL kn T h vm0 cells slots) (hd : decode bytes pc = .ok (.iconst i, 1)) (hp : pc + 1 = pc') (hv : Int32.ofInt i = v)
    (k : Go p.tables e below P (T.setTop (mkF m pc' Ls (.int v :: st)))) : Go p.tables e below P (T.setTop (mkF m pc Ls st)) := by
  obtain ⟨k0, locs, Y, N, eT, O, K, hx, hby, hml, hret, hlk, hown, hnm, hZ, hS, hk, hC, hEW, hKn, hsh⟩ := X
  subst hp hv
  exact Go.go (fun t q => XS.iconst Y.here hx rfl (hb hby hd) q) k
theorem o_bipush {i : Int} {v : Int32} (X : Here p l e R s m args below meth c Z bytes maxL ret own nm h0 n0 ws EL kn T h vm0 cells slots) (hd : decode bytes pc = .ok (.bipush i, 2)) (hp : pc + 2 = pc') (hv : (Int8.ofInt i).toInt32 = v)
    (k : Go p.tables e below P (T.setTop (mkF m pc' Ls (.int v :: st)))) : Go p.tables e below P (T.setTop (mkF m pc Ls st)) := by
  obtain ⟨k0, locs, Y, N, eT, O, K, hx, hby, hml, hret, hlk, hown, hnm, hZ, hS, hk, hC, hEW, hKn, hsh⟩ := X
  subst hp hv
  exact Go.go (fun t q => XS.bipush Y.here hx rfl (hb hby hd) q) k
theorem o_sipush {i : Int} {v : Int32} (X : Here p l e R s m args below meth c Z bytes maxL ret own nm h0 n0 ws EL kn T h vm0 cells slots) (hd : decode bytes pc = .ok (.sipush i, 3)) (hp : pc + 3 = pc') (hv : (Int16.ofInt i).toInt32 = v)
    (k : Go p.tables e below P (T.setTop (mkF m pc' Ls (.int v :: st)))) : Go p.tables e below P (T.setTop (mkF m pc Ls st)) := by
  obtain ⟨k0, locs, Y, N, eT, O, K, hx, hby, hml, hret, hlk, hown, hnm, hZ, hS, hk, hC, hEW, hKn, hsh⟩ := X
  subst hp hv
  exact Go.go (fun t q => XS.sipush Y.here hx rfl (hb hby hd) q) k
theorem o_lconst {i : Fin 2} {v : Int64} (X : Here p l e R s m args below meth c Z bytes maxL ret own nm h0 n0 ws EL kn T h vm0 cells slots) (hd : decode bytes pc = .ok (.lconst i, 1)) (hp : pc + 1 = pc') (hv : Int64.ofNat i = v)
    (k : Go p.tables e below P (T.setTop (mkF m pc' Ls (.long v :: st)))) : Go p.tables e below P (T.setTop (mkF m pc Ls st)) := by
  obtain ⟨k0, locs, Y, N, eT, O, K, hx, hby, hml, hret, hlk, hown, hnm, hZ, hS, hk, hC, hEW, hKn, hsh⟩ := X
  subst hp hv
  exact Go.go (fun t q => XS.lconst Y.here hx rfl (hb hby hd) q) k
theorem o_aconstNull  (X : Here p l e R s m args below meth c Z bytes maxL ret own nm h0 n0 ws EL kn T h vm0 cells slots) (hd : decode bytes pc = .ok (.aconst_null, 1)) (hp : pc + 1 = pc') 
    (k : Go p.tables e below P (T.setTop (mkF m pc' Ls (.null :: st)))) : Go p.tables e below P (T.setTop (mkF m pc Ls st)) := by
  obtain ⟨k0, locs, Y, N, eT, O, K, hx, hby, hml, hret, hlk, hown, hnm, hZ, hS, hk, hC, hEW, hKn, hsh⟩ := X
  subst hp
  exact Go.go (fun t q => XS.aconstNull Y.here hx rfl (hb hby hd)  q) k
theorem o_iadd {x y : Int32} {v : Int32} (X : Here p l e R s m args below meth c Z bytes maxL ret own nm h0 n0 ws EL kn T h vm0 cells slots) (hd : decode bytes pc = .ok (.iadd, 1)) (hp : pc + 1 = pc')  (hv : x + y = v)
    (k : Go p.tables e below P (T.setTop (mkF m pc' Ls (.int v :: st)))) : Go p.tables e below P (T.setTop (mkF m pc Ls (.int y :: .int x :: st))) := by
  obtain ⟨k0, locs, Y, N, eT, O, K, hx, hby, hml, hret, hlk, hown, hnm, hZ, hS, hk, hC, hEW, hKn, hsh⟩ := X
  subst hp hv
  exact Go.go (fun t q => XS.iadd Y.here hx rfl (hb hby hd) rfl q) k
theorem o_isub {x y : Int32} {v : Int32} (X : Here p l e R s m args below meth c Z bytes maxL ret own nm h0 n0 ws EL kn T h vm0 cells slots) (hd : decode bytes pc = .ok (.isub, 1)) (hp : pc + 1 = pc')  (hv : x - y = v)
    (k : Go p.tables e below P (T.setTop (mkF m pc' Ls (.int v :: st)))) : Go p.tables e below P (T.setTop (mkF m pc Ls (.int y :: .int x :: st))) := by
  obtain ⟨k0, locs, Y, N, eT, O, K, hx, hby, hml, hret, hlk, hown, hnm, hZ, hS, hk, hC, hEW, hKn, hsh⟩ := X
  subst hp hv
  exact Go.go (fun t q => XS.isub Y.here hx rfl (hb hby hd) rfl q) k
theorem o_imul {x y : Int32} {v : Int32} (X : Here p l e R s m args below meth c Z bytes maxL ret own nm h0 n0 ws EL kn T h vm0 cells slots) (hd : decode bytes pc = .ok (.imul, 1)) (hp : pc + 1 = pc')  (hv : x * y = v)
    (k : Go p.tables e below P (T.setTop (mkF m pc' Ls (.int v :: st)))) : Go p.tables e below P (T.setTop (mkF m pc Ls (.int y :: .int x :: st))) := by
  obtain ⟨k0, locs, Y, N, eT, O, K, hx, hby, hml, hret, hlk, hown, hnm, hZ, hS, hk, hC, hEW, hKn, hsh⟩ := X
  subst hp hv
  exact Go.go (fun t q => XS.imul Y.here hx rfl (hb hby hd) rfl q) k
theorem o_iand {x y : Int32} {v : Int32} (X : Here p l e R s m args below meth c Z bytes maxL ret own nm h0 n0 ws EL kn T h vm0 cells slots) (hd : decode bytes pc = .ok (.iand, 1)) (hp : pc + 1 = pc')  (hv : x &&& y = v)
    (k : Go p.tables e below P (T.setTop (mkF m pc' Ls (.int v :: st)))) : Go p.tables e below P (T.setTop (mkF m pc Ls (.int y :: .int x :: st))) := by
  obtain ⟨k0, locs, Y, N, eT, O, K, hx, hby, hml, hret, hlk, hown, hnm, hZ, hS, hk, hC, hEW, hKn, hsh⟩ := X
  subst hp hv
  exact Go.go (fun t q => XS.iand Y.here hx rfl (hb hby hd) rfl q) k
theorem o_ior {x y : Int32} {v : Int32} (X : Here p l e R s m args below meth c Z bytes maxL ret own nm h0 n0 ws EL kn T h vm0 cells slots) (hd : decode bytes pc = .ok (.ior, 1)) (hp : pc + 1 = pc')  (hv : x ||| y = v)
    (k : Go p.tables e below P (T.setTop (mkF m pc' Ls (.int v :: st)))) : Go p.tables e below P (T.setTop (mkF m pc Ls (.int y :: .int x :: st))) := by
  obtain ⟨k0, locs, Y, N, eT, O, K, hx, hby, hml, hret, hlk, hown, hnm, hZ, hS, hk, hC, hEW, hKn, hsh⟩ := X
  subst hp hv
  exact Go.go (fun t q => XS.ior Y.here hx rfl (hb hby hd) rfl q) k
theorem o_ixor {x y : Int32} {v : Int32} (X : Here p l e R s m args below meth c Z bytes maxL ret own nm h0 n0 ws EL kn T h vm0 cells slots) (hd : decode bytes pc = .ok (.ixor, 1)) (hp : pc + 1 = pc')  (hv : x ^^^ y = v)
    (k : Go p.tables e below P (T.setTop (mkF m pc' Ls (.int v :: st)))) : Go p.tables e below P (T.setTop (mkF m pc Ls (.int y :: .int x :: st))) := by
  obtain ⟨k0, locs, Y, N, eT, O, K, hx, hby, hml, hret, hlk, hown, hnm, hZ, hS, hk, hC, hEW, hKn, hsh⟩ := X
  subst hp hv
  exact Go.go (fun t q => XS.ixor Y.here hx rfl (hb hby hd) rfl q) k
theorem o_ishl {x y : Int32} {v : Int32} (X : Here p l e R s m args below meth c Z bytes maxL ret own nm h0 n0 ws EL kn T h vm0 cells slots) (hd : decode bytes pc = .ok (.ishl, 1)) (hp : pc + 1 = pc')  (hv : x <<< (y &&& 31) = v)
    (k : Go p.tables e below P (T.setTop (mkF m pc' Ls (.int v :: st)))) : Go p.tables e below P (T.setTop (mkF m pc Ls (.int y :: .int x :: st))) := by
  obtain ⟨k0, locs, Y, N, eT, O, K, hx, hby, hml, hret, hlk, hown, hnm, hZ, hS, hk, hC, hEW, hKn, hsh⟩ := X
  subst hp hv
  exact Go.go (fun t q => XS.ishl Y.here hx rfl (hb hby hd) rfl q) k
theorem o_ishr {x y : Int32} {v : Int32} (X : Here p l e R s m args below meth c Z bytes maxL ret own nm h0 n0 ws EL kn T h vm0 cells slots) (hd : decode bytes pc = .ok (.ishr, 1)) (hp : pc + 1 = pc')  (hv : x >>> (y &&& 31) = v)
    (k : Go p.tables e below P (T.setTop (mkF m pc' Ls (.int v :: st)))) : Go p.tables e below P (T.setTop (mkF m pc Ls (.int y :: .int x :: st))) := by
  obtain ⟨k0, locs, Y, N, eT, O, K, hx, hby, hml, hret, hlk, hown, hnm, hZ, hS, hk, hC, hEW, hKn, hsh⟩ := X
  subst hp hv
  exact Go.go (fun t q => XS.ishr Y.here hx rfl (hb hby hd) rfl q) k
theorem o_iushr {x y : Int32} {v : Int32} (X : Here p l e R s m args below meth c Z bytes maxL ret own nm h0 n0 ws EL kn T h vm0 cells slots) (hd : decode bytes pc = .ok (.iushr, 1)) (hp : pc + 1 = pc')  (hv : (x.toUInt32 >>> (y &&& 31).toUInt32).toInt32 = v)
    (k : Go p.tables e below P (T.setTop (mkF m pc' Ls (.int v :: st)))) : Go p.tables e below P (T.setTop (mkF m pc Ls (.int y :: .int x :: st))) := by
  obtain ⟨k0, locs, Y, N, eT, O, K, hx, hby, hml, hret, hlk, hown, hnm, hZ, hS, hk, hC, hEW, hKn, hsh⟩ := X
  subst hp hv
  exact Go.go (fun t q => XS.iushr Y.here hx rfl (hb hby hd) rfl q) k
theorem o_ladd {x y : Int64} {v : Int64} (X : Here p l e R s m args below meth c Z bytes maxL ret own nm h0 n0 ws EL kn T h vm0 cells slots) (hd : decode bytes pc = .ok (.ladd, 1)) (hp : pc + 1 = pc')  (hv : x + y = v)
    (k : Go p.tables e below P (T.setTop (mkF m pc' Ls (.long v :: st)))) : Go p.tables e below P (T.setTop (mkF m pc Ls (.long y :: .long x :: st))) := by
  obtain ⟨k0, locs, Y, N, eT, O, K, hx, hby, hml, hret, hlk, hown, hnm, hZ, hS, hk, hC, hEW, hKn, hsh⟩ := X
  subst hp hv
  exact Go.go (fun t q => XS.ladd Y.here hx rfl (hb hby hd) rfl q) k
theorem o_lsub {x y : Int64} {v : Int64} (X : Here p l e R s m args below meth c Z bytes maxL ret own nm h0 n0 ws EL kn T h vm0 cells slots) (hd : decode bytes pc = .ok (.lsub, 1)) (hp : pc + 1 = pc')  (hv : x - y = v)
    (k : Go p.tables e below P (T.setTop (mkF m pc' Ls (.long v :: st)))) : Go p.tables e below P (T.setTop (mkF m pc Ls (.long y :: .long x :: st))) := by
  obtain ⟨k0, locs, Y, N, eT, O, K, hx, hby, hml, hret, hlk, hown, hnm, hZ, hS, hk, hC, hEW, hKn, hsh⟩ := X
  subst hp hv
  exact Go.go (fun t q => XS.lsub Y.here hx rfl (hb hby hd) rfl q) k
theorem o_lmul {x y : Int64} {v : Int64} (X : Here p l e R s m args below meth c Z bytes maxL ret own nm h0 n0 ws EL kn T h vm0 cells slots) (hd : decode bytes pc = .ok (.lmul, 1)) (hp : pc + 1 = pc')  (hv : x * y = v)
    (k : Go p.tables e below P (T.setTop (mkF m pc' Ls (.long v :: st)))) : Go p.tables e below P (T.setTop (mkF m pc Ls (.long y :: .long x :: st))) := by
  obtain ⟨k0, locs, Y, N, eT, O, K, hx, hby, hml, hret, hlk, hown, hnm, hZ, hS, hk, hC, hEW, hKn, hsh⟩ := X
  subst hp hv
  exact Go.go (fun t q => XS.lmul Y.here hx rfl (hb hby hd) rfl q) k
theorem o_land {x y : Int64} {v : Int64} (X : Here p l e R s m args below meth c Z bytes maxL ret own nm h0 n0 ws EL kn T h vm0 cells slots) (hd : decode bytes pc = .ok (.land, 1)) (hp : pc + 1 = pc')  (hv : x &&& y = v)
    (k : Go p.tables e below P (T.setTop (mkF m pc' Ls (.long v :: st)))) : Go p.tables e below P (T.setTop (mkF m pc Ls (.long y :: .long x :: st))) := by
  obtain ⟨k0, locs, Y, N, eT, O, K, hx, hby, hml, hret, hlk, hown, hnm, hZ, hS, hk, hC, hEW, hKn, hsh⟩ := X
  subst hp hv
  exact Go.go (fun t q => XS.land Y.here hx rfl (hb hby hd) rfl q) k
theorem o_lor {x y : Int64} {v : Int64} (X : Here p l e R s m args below meth c Z bytes maxL ret own nm h0 n0 ws EL kn T h vm0 cells slots) (hd : decode bytes pc = .ok (.lor, 1)) (hp : pc + 1 = pc')  (hv : x ||| y = v)
    (k : Go p.tables e below P (T.setTop (mkF m pc' Ls (.long v :: st)))) : Go p.tables e below P (T.setTop (mkF m pc Ls (.long y :: .long x :: st))) := by
  obtain ⟨k0, locs, Y, N, eT, O, K, hx, hby, hml, hret, hlk, hown, hnm, hZ, hS, hk, hC, hEW, hKn, hsh⟩ := X
  subst hp hv
  exact Go.go (fun t q => XS.lor Y.here hx rfl (hb hby hd) rfl q) k
theorem o_lxor {x y : Int64} {v : Int64} (X : Here p l e R s m args below meth c Z bytes maxL ret own nm h0 n0 ws EL kn T h vm0 cells slots) (hd : decode bytes pc = .ok (.lxor, 1)) (hp : pc + 1 = pc')  (hv : x ^^^ y = v)
    (k : Go p.tables e below P (T.setTop (mkF m pc' Ls (.long v :: st)))) : Go p.tables e below P (T.setTop (mkF m pc Ls (.long y :: .long x :: st))) := by
  obtain ⟨k0, locs, Y, N, eT, O, K, hx, hby, hml, hret, hlk, hown, hnm, hZ, hS, hk, hC, hEW, hKn, hsh⟩ := X
  subst hp hv
  exact Go.go (fun t q => XS.lxor Y.here hx rfl (hb hby hd) rfl q) k
theorem o_lshl {x : Int64} {y : Int32} {v : Int64} (X : Here p l e R s m args below meth c Z bytes maxL ret own nm h0 n0 ws EL kn T h vm0 cells slots) (hd : decode bytes pc = .ok (.lshl, 1)) (hp : pc + 1 = pc')  (hv : x <<< (y &&& 0x3f).toInt64 = v)
    (k : Go p.tables e below P (T.setTop (mkF m pc' Ls (.long v :: st)))) : Go p.tables e below P (T.setTop (mkF m pc Ls (.int y :: .long x :: st))) := by
  obtain ⟨k0, locs, Y, N, eT, O, K, hx, hby, hml, hret, hlk, hown, hnm, hZ, hS, hk, hC, hEW, hKn, hsh⟩ := X
  subst hp hv
  exact Go.go (fun t q => XS.lshl Y.here hx rfl (hb hby hd) rfl q) k
theorem o_lshr {x : Int64} {y : Int32} {v : Int64} (X : Here p l e R s m args below meth c Z bytes maxL ret own nm h0 n0 ws EL kn T h vm0 cells slots) (hd : decode bytes pc = .ok (.lshr, 1)) (hp : pc + 1 = pc')  (hv : x >>> (y &&& 0x3f).toInt64 = v)
    (k : Go p.tables e below P (T.setTop (mkF m pc' Ls (.long v :: st)))) : Go p.tables e below P (T.setTop (mkF m pc Ls (.int y :: .long x :: st))) := by
  obtain ⟨k0, locs, Y, N, eT, O, K, hx, hby, hml, hret, hlk, hown, hnm, hZ, hS, hk, hC, hEW, hKn, hsh⟩ := X
  subst hp hv
  exact Go.go (fun t q => XS.lshr Y.here hx rfl (hb hby hd) rfl q) k
theorem o_lushr {x : Int64} {y : Int32} {v : Int64} (X : Here p l e R s m args below meth c Z bytes maxL ret own nm h0 n0 ws EL kn T h vm0 cells slots) (hd : decode bytes pc = .ok (.lushr, 1)) (hp : pc + 1 = pc')  (hv : (x.toUInt64 >>> (y &&& 0x3f).toInt64.toUInt64).toInt64 = v)
    (k : Go p.tables e below P (T.setTop (mkF m pc' Ls (.long v :: st)))) : Go p.tables e below P (T.setTop (mkF m pc Ls (.int y :: .long x :: st))) := by
  obtain ⟨k0, locs, Y, N, eT, O, K, hx, hby, hml, hret, hlk, hown, hnm, hZ, hS, hk, hC, hEW, hKn, hsh⟩ := X
  subst hp hv
  exact Go.go (fun t q => XS.lushr Y.here hx rfl (hb hby hd) rfl q) k
theorem o_lcmp {x y : Int64} {v : Int32} (X : Here p l e R s m args below meth c Z bytes maxL ret own nm h0 n0 ws EL kn T h vm0 cells slots) (hd : decode bytes pc = .ok (.lcmp, 1)) (hp : pc + 1 = pc')  (hv : lcmpW x y = v)
    (k : Go p.tables e below P (T.setTop (mkF m pc' Ls (.int v :: st)))) : Go p.tables e below P (T.setTop (mkF m pc Ls (.long y :: .long x :: st))) := by
  obtain ⟨k0, locs, Y, N, eT, O, K, hx, hby, hml, hret, hlk, hown, hnm, hZ, hS, hk, hC, hEW, hKn, hsh⟩ := X
  subst hp hv
  exact Go.go (fun t q => XS.lcmp Y.here hx rfl (hb hby hd) rfl q) k
theorem o_idiv {x y : Int32} {v : Int32} (X : Here p l e R s m args below meth c Z bytes maxL ret own nm h0 n0 ws EL kn T h vm0 cells slots) (hd : decode bytes pc = .ok (.idiv, 1)) (hp : pc + 1 = pc') (hy : y ≠ 0) (hv : x / y = v)
    (k : Go p.tables e below P (T.setTop (mkF m pc' Ls (.int v :: st)))) : Go p.tables e below P (T.setTop (mkF m pc Ls (.int y :: .int x :: st))) := by
  obtain ⟨k0, locs, Y, N, eT, O, K, hx, hby, hml, hret, hlk, hown, hnm, hZ, hS, hk, hC, hEW, hKn, hsh⟩ := X
  subst hp hv
  exact Go.go (fun t q => XS.idiv Y.here hx rfl (hb hby hd) rfl hy q) k
theorem o_irem {x y : Int32} {v : Int32} (X : Here p l e R s m args below meth c Z bytes maxL ret own nm h0 n0 ws EL kn T h vm0 cells slots) (hd : decode bytes pc = .ok (.irem, 1)) (hp : pc + 1 = pc') (hy : y ≠ 0) (hv : x % y = v)
    (k : Go p.tables e below P (T.setTop (mkF m pc' Ls (.int v :: st)))) : Go p.tables e below P (T.setTop (mkF m pc Ls (.int y :: .int x :: st))) := by
  obtain ⟨k0, locs, Y, N, eT, O, K, hx, hby, hml, hret, hlk, hown, hnm, hZ, hS, hk, hC, hEW, hKn, hsh⟩ := X
  subst hp hv
  exact Go.go (fun t q => iremM Y hx rfl (hb hby hd) rfl hy q) k
theorem o_ineg {x : Int32} {v : Int32} (X : Here p l e R s m args below meth c Z bytes maxL ret own nm h0 n0 ws EL kn T h vm0 cells slots) (hd : decode bytes pc = .ok (.ineg, 1)) (hp : pc + 1 = pc')  (hv : -x = v)
    (k : Go p.tables e below P (T.setTop (mkF m pc' Ls (.int v :: st)))) : Go p.tables e below P (T.setTop (mkF m pc Ls (.int x :: st))) := by
  obtain ⟨k0, locs, Y, N, eT, O, K, hx, hby, hml, hret, hlk, hown, hnm, hZ, hS, hk, hC, hEW, hKn, hsh⟩ := X
  subst hp hv
  exact Go.go (fun t q => XS.ineg Y.here hx rfl (hb hby hd) rfl q) k
theorem o_i2b {x : Int32} {v : Int32} (X : Here p l e R s m args below meth c Z bytes maxL ret own nm h0 n0 ws EL kn T h vm0 cells slots) (hd : decode bytes pc = .ok (.i2b, 1)) (hp : pc + 1 = pc')  (hv : x.toInt8.toInt32 = v)
    (k : Go p.tables e below P (T.setTop (mkF m pc' Ls (.int v :: st)))) : Go p.tables e below P (T.setTop (mkF m pc Ls (.int x :: st))) := by
  obtain ⟨k0, locs, Y, N, eT, O, K, hx, hby, hml, hret, hlk, hown, hnm, hZ, hS, hk, hC, hEW, hKn, hsh⟩ := X
  subst hp hv
  exact Go.go (fun t q => XS.i2b Y.here hx rfl (hb hby hd) rfl q) k
theorem o_i2c {x : Int32} {v : Int32} (X : Here p l e R s m args below meth c Z bytes maxL ret own nm h0 n0 ws EL kn T h vm0 cells slots) (hd : decode bytes pc = .ok (.i2c, 1)) (hp : pc + 1 = pc')  (hv : x.toUInt32.toUInt16.toUInt32.toInt32 = v)
    (k : Go p.tables e below P (T.setTop (mkF m pc' Ls (.int v :: st)))) : Go p.tables e below P (T.setTop (mkF m pc Ls (.int x :: st))) := by
  obtain ⟨k0, locs, Y, N, eT, O, K, hx, hby, hml, hret, hlk, hown, hnm, hZ, hS, hk, hC, hEW, hKn, hsh⟩ := X
  subst hp hv
  exact Go.go (fun t q => XS.i2c Y.here hx rfl (hb hby hd) rfl q) k
theorem o_i2s {x : Int32} {v : Int32} (X : Here p l e R s m args below meth c Z bytes maxL ret own nm h0 n0 ws EL kn T h vm0 cells slots) (hd : decode bytes pc = .ok (.i2s, 1)) (hp : pc + 1 = pc')  (hv : x.toInt16.toInt32 = v)
    (k : Go p.tables e below P (T.setTop (mkF m pc' Ls (.int v :: st)))) : Go p.tables e below P (T.setTop (mkF m pc Ls (.int x :: st))) := by
  obtain ⟨k0, locs, Y, N, eT, O, K, hx, hby, hml, hret, hlk, hown, hnm, hZ, hS, hk, hC, hEW, hKn, hsh⟩ := X
  subst hp hv
  exact Go.go (fun t q => XS.i2s Y.here hx rfl (hb hby hd) rfl q) k
theorem o_i2l {x : Int32} {v : Int64} (X : Here p l e R s m args below meth c Z bytes maxL ret own nm h0 n0 ws EL kn T h vm0 cells slots) (hd : decode bytes pc = .ok (.i2l, 1)) (hp : pc + 1 = pc')  (hv : x.toInt64 = v)
    (k : Go p.tables e below P (T.setTop (mkF m pc' Ls (.long v :: st)))) : Go p.tables e below P (T.setTop (mkF m pc Ls (.int x :: st))) := by
  obtain ⟨k0, locs, Y, N, eT, O, K, hx, hby, hml, hret, hlk, hown, hnm, hZ, hS, hk, hC, hEW, hKn, hsh⟩ := X
  subst hp hv
  exact Go.go (fun t q => XS.i2l Y.here hx rfl (hb hby hd) rfl q) k
theorem o_l2i {x : Int64} {v : Int32} (X : Here p l e R s m args below meth c Z bytes maxL ret own nm h0 n0 ws EL kn T h vm0 cells slots) (hd : decode bytes pc = .ok (.l2i, 1)) (hp : pc + 1 = pc')  (hv : x.toInt32 = v)
    (k : Go p.tables e below P (T.setTop (mkF m pc' Ls (.int v :: st)))) : Go p.tables e below P (T.setTop (mkF m pc Ls (.long x :: st))) := by
  obtain ⟨k0, locs, Y, N, eT, O, K, hx, hby, hml, hret, hlk, hown, hnm, hZ, hS, hk, hC, hEW, hKn, hsh⟩ := X
  subst hp hv
  exact Go.go (fun t q => XS.l2i Y.here hx rfl (hb hby hd) rfl q) k
theorem o_iinc {k : Nat} {i : Int} {x y : Int32} {l' : Array Slot} (X : Here p l e R s m args below meth c Z bytes maxL ret own nm h0 n0 ws EL kn T h vm0 cells slots) (hd : decode bytes pc = .ok (.iinc k i, 3)) (hp : pc + 3 = pc') (hl : Ls[k]? = some (.val (.int x))) (hy : x + Int32.ofInt i = y) (hl' : storeLocals Ls k (.int y) = some l')
    (k : Go p.tables e below P (T.setTop (mkF m pc' l' st))) : Go p.tables e below P (T.setTop (mkF m pc Ls st)) := by
  obtain ⟨k0, locs, Y, N, eT, O, K, hx, hby, hml, hret, hlk, hown, hnm, hZ, hS, hk, hC, hEW, hKn, hsh⟩ := X
  subst hp
  exact Go.go (fun t q => XS.iinc Y.here hx rfl (hb hby hd) hl (hy ▸ hl') q) k
theorem o_dup {x : Value} (X : Here p l e R s m args below meth c Z bytes maxL ret own nm h0 n0 ws EL kn T h vm0 cells slots) (hd : decode bytes pc = .ok (.dup, 1)) (hp : pc + 1 = pc') (hc : x.category = 1)
    (k : Go p.tables e below P (T.setTop (mkF m pc' Ls (x :: x :: st)))) : Go p.tables e below P (T.setTop (mkF m pc Ls (x :: st))) := by
  obtain ⟨k0, locs, Y, N, eT, O, K, hx, hby, hml, hret, hlk, hown, hnm, hZ, hS, hk, hC, hEW, hKn, hsh⟩ := X
  subst hp
  exact Go.go (fun t q => XS.dup Y.here hx rfl (hb hby hd) rfl hc q) k
theorem o_pop {x : Value} (X : Here p l e R s m args below meth c Z bytes maxL ret own nm h0 n0 ws EL kn T h vm0 cells slots) (hd : decode bytes pc = .ok (.pop, 1)) (hp : pc + 1 = pc') (hc : x.category = 1)
    (k : Go p.tables e below P (T.setTop (mkF m pc' Ls st))) : Go p.tables e below P (T.setTop (mkF m pc Ls (x :: st))) := by
  obtain ⟨k0, locs, Y, N, eT, O, K, hx, hby, hml, hret, hlk, hown, hnm, hZ, hS, hk, hC, hEW, hKn, hsh⟩ := X
  subst hp
  exact Go.go (fun t q => XS.pop Y.here hx rfl (hb hby hd) rfl hc q) k
theorem o_dupX1 {x y : Value} (X : Here p l e R s m args below meth c Z bytes maxL ret own nm h0 n0 ws EL kn T h vm0 cells slots) (hd : decode bytes pc = .ok (.dup_x1, 1)) (hp : pc + 1 = pc') (hc : x.category = 1) (hc' : y.category = 1)
    (k : Go p.tables e below P (T.setTop (mkF m pc' Ls (x :: y :: x :: st)))) : Go p.tables e below P (T.setTop (mkF m pc Ls (x :: y :: st))) := by
  obtain ⟨k0, locs, Y, N, eT, O, K, hx, hby, hml, hret, hlk, hown, hnm, hZ, hS, hk, hC, hEW, hKn, hsh⟩ := X
  subst hp
  exact Go.go (fun t q => XS.dupX1 Y.here hx rfl (hb hby hd) rfl hc hc' q) k
theorem o_dup2 {x y : Value} (X : Here p l e R s m args below meth c Z bytes maxL ret own nm h0 n0 ws EL kn T h vm0 cells slots) (hd : decode bytes pc = .ok (.dup2, 1)) (hp : pc + 1 = pc') (hc : x.category = 1) (hc' : y.category = 1)
    (k : Go p.tables e below P (T.setTop (mkF m pc' Ls (x :: y :: x :: y :: st)))) : Go p.tables e below P (T.setTop (mkF m pc Ls (x :: y :: st))) := by
  obtain ⟨k0, locs, Y, N, eT, O, K, hx, hby, hml, hret, hlk, hown, hnm, hZ, hS, hk, hC, hEW, hKn, hsh⟩ := X
  subst hp
  exact Go.go (fun t q => Jvm.Free.XT.dup2 Y.here hx rfl (hb hby hd) rfl hc hc' q) k
theorem o_goto  {o : Int} (X : Here p l e R s m args below meth c Z bytes maxL ret own nm h0 n0 ws EL kn T h vm0 cells slots) (hd : decode bytes pc = .ok (.goto o, 3)) (ho : 0 ≤ (pc : Int) + o) (hp : ((pc : Int) + o).toNat = pc') 
    (k : Go p.tables e below P (T.setTop (mkF m pc' Ls st))) : Go p.tables e below P (T.setTop (mkF m pc Ls st)) := by
  obtain ⟨k0, locs, Y, N, eT, O, K, hx, hby, hml, hret, hlk, hown, hnm, hZ, hS, hk, hC, hEW, hKn, hsh⟩ := X
  exact Go.go (fun t q => XS.goto Y.here hx rfl (pc0 := pc) (pc' := pc') rfl (hb hby hd)  ho hp q) k
theorem o_ifYes {cd : ClassFile.Cond} {x : Int32} {o : Int} (X : Here p l e R s m args below meth c Z bytes maxL ret own nm h0 n0 ws EL kn T h vm0 cells slots) (hd : decode bytes pc = .ok (.ifCond cd o, 3)) (ho : 0 ≤ (pc : Int) + o) (hp : ((pc : Int) + o).toNat = pc') (hc : ifCond.holds cd x = true)
    (k : Go p.tables e below P (T.setTop (mkF m pc' Ls st))) : Go p.tables e below P (T.setTop (mkF m pc Ls (.int x :: st))) := by
  obtain ⟨k0, locs, Y, N, eT, O, K, hx, hby, hml, hret, hlk, hown, hnm, hZ, hS, hk, hC, hEW, hKn, hsh⟩ := X
  exact Go.go (fun t q => XS.ifYes Y.here hx rfl (pc0 := pc) (pc' := pc') rfl (hb hby hd) rfl hc ho hp q) k
theorem o_ifNo {cd : ClassFile.Cond} {x : Int32} {o : Int} (X : Here p l e R s m args below meth c Z bytes maxL ret own nm h0 n0 ws EL kn T h vm0 cells slots) (hd : decode bytes pc = .ok (.ifCond cd o, 3)) (hp : pc + 3 = pc') (hc : ifCond.holds cd x = false)
    (k : Go p.tables e below P (T.setTop (mkF m pc' Ls st))) : Go p.tables e below P (T.setTop (mkF m pc Ls (.int x :: st))) := by
  obtain ⟨k0, locs, Y, N, eT, O, K, hx, hby, hml, hret, hlk, hown, hnm, hZ, hS, hk, hC, hEW, hKn, hsh⟩ := X
  subst hp
  exact Go.go (fun t q => XS.ifNo Y.here hx rfl (hb hby hd) rfl hc q) k
theorem o_icmpYes {cd : ClassFile.Cond} {x y : Int32} {o : Int} (X : Here p l e R s m args below meth c Z bytes maxL ret own nm h0 n0 ws EL kn T h vm0 cells slots) (hd : decode bytes pc = .ok (.if_icmp cd o, 3)) (ho : 0 ≤ (pc : Int) + o) (hp : ((pc : Int) + o).toNat = pc') (hc : if_icmp.holds cd x y = true)
    (k : Go p.tables e below P (T.setTop (mkF m pc' Ls st))) : Go p.tables e below P (T.setTop (mkF m pc Ls (.int y :: .int x :: st))) := by
  obtain ⟨k0, locs, Y, N, eT, O, K, hx, hby, hml, hret, hlk, hown, hnm, hZ, hS, hk, hC, hEW, hKn, hsh⟩ := X
  exact Go.go (fun t q => XS.icmpYes Y.here hx rfl (pc0 := pc) (pc' := pc') rfl (hb hby hd) rfl hc ho hp q) k
theorem o_icmpNo {cd : ClassFile.Cond} {x y : Int32} {o : Int} (X : Here p l e R s m args below meth c Z bytes maxL ret own nm h0 n0 ws EL kn T h vm0 cells slots) (hd : decode bytes pc = .ok (.if_icmp cd o, 3)) (hp : pc + 3 = pc') (hc : if_icmp.holds cd x y = false)
    (k : Go p.tables e below P (T.setTop (mkF m pc' Ls st))) : Go p.tables e below P (T.setTop (mkF m pc Ls (.int y :: .int x :: st))) := by
  obtain ⟨k0, locs, Y, N, eT, O, K, hx, hby, hml, hret, hlk, hown, hnm, hZ, hS, hk, hC, hEW, hKn, hsh⟩ := X
  subst hp
  exact Go.go (fun t q => XS.icmpNo Y.here hx rfl (hb hby hd) rfl hc q) k
theorem o_ifnullYes  {o : Int} (X : Here p l e R s m args below meth c Z bytes maxL ret own nm h0 n0 ws EL kn T h vm0 cells slots) (hd : decode bytes pc = .ok (.ifnull o, 3)) (ho : 0 ≤ (pc : Int) + o) (hp : ((pc : Int) + o).toNat = pc') 
    (k : Go p.tables e below P (T.setTop (mkF m pc' Ls st))) : Go p.tables e below P (T.setTop (mkF m pc Ls (.null :: st))) := by
  obtain ⟨k0, locs, Y, N, eT, O, K, hx, hby, hml, hret, hlk, hown, hnm, hZ, hS, hk, hC, hEW, hKn, hsh⟩ := X
  exact Go.go (fun t q => XS.ifnullYes Y.here hx rfl (pc0 := pc) (pc' := pc') rfl (hb hby hd) rfl  ho hp q) k
theorem o_ifnullNo {b : Addr} {o : Int} (X : Here p l e R s m args below meth c Z bytes maxL ret own nm h0 n0 ws EL kn T h vm0 cells slots) (hd : decode bytes pc = .ok (.ifnull o, 3)) (hp : pc + 3 = pc') 
    (k : Go p.tables e below P (T.setTop (mkF m pc' Ls st))) : Go p.tables e below P (T.setTop (mkF m pc Ls (.ref b :: st))) := by
  obtain ⟨k0, locs, Y, N, eT, O, K, hx, hby, hml, hret, hlk, hown, hnm, hZ, hS, hk, hC, hEW, hKn, hsh⟩ := X
  subst hp
  exact Go.go (fun t q => XS.ifnullNo Y.here hx rfl (hb hby hd) rfl  q) k
theorem o_ifnonnullYes {b : Addr} {o : Int} (X : Here p l e R s m args below meth c Z bytes maxL ret own nm h0 n0 ws EL kn T h vm0 cells slots) (hd : decode bytes pc = .ok (.ifnonnull o, 3)) (ho : 0 ≤ (pc : Int) + o) (hp : ((pc : Int) + o).toNat = pc') 
    (k : Go p.tables e below P (T.setTop (mkF m pc' Ls st))) : Go p.tables e below P (T.setTop (mkF m pc Ls (.ref b :: st))) := by
  obtain ⟨k0, locs, Y, N, eT, O, K, hx, hby, hml, hret, hlk, hown, hnm, hZ, hS, hk, hC, hEW, hKn, hsh⟩ := X
  exact Go.go (fun t q => XS.ifnonnullYes Y.here hx rfl (pc0 := pc) (pc' := pc') rfl (hb hby hd) rfl  ho hp q) k
theorem o_ifnonnullNo  {o : Int} (X : Here p l e R s m args below meth c Z bytes maxL ret own nm h0 n0 ws EL kn T h vm0 cells slots) (hd : decode bytes pc = .ok (.ifnonnull o, 3)) (hp : pc + 3 = pc') 
    (k : Go p.tables e below P (T.setTop (mkF m pc' Ls st))) : Go p.tables e below P (T.setTop (mkF m pc Ls (.null :: st))) := by
  obtain ⟨k0, locs, Y, N, eT, O, K, hx, hby, hml, hret, hlk, hown, hnm, hZ, hS, hk, hC, hEW, hKn, hsh⟩ := X
  subst hp
  exact Go.go (fun t q => XS.ifnonnullNo Y.here hx rfl (hb hby hd) rfl  q) k
theorem o_acmp {cd : ACond} {x y : Value} {o : Int} {same : Bool} (X : Here p l e R s m args below meth c Z bytes maxL ret own nm h0 n0 ws EL kn T h vm0 cells slots) (hd : decode bytes pc = .ok (.if_acmp cd o, 3)) (h1 : x.isRef = true) (h2 : y.isRef = true) (hq : decide (x = y) = same) (ho : 0 ≤ (pc : Int) + o) (hp : pc' = if acV cd same = true then ((pc : Int) + o).toNat else pc + 3)
    (k : Go p.tables e below P (T.setTop (mkF m pc' Ls st))) : Go p.tables e below P (T.setTop (mkF m pc Ls (y :: x :: st))) := by
  obtain ⟨k0, locs, Y, N, eT, O, K, hx, hby, hml, hret, hlk, hown, hnm, hZ, hS, hk, hC, hEW, hKn, hsh⟩ := X
  exact Go.go (fun t q => RoadKit.acmp (g := mkF m pc Ls (y :: x :: st)) Y hx rfl h1 h2 (pc0 := pc) (pc' := pc') rfl (hb hby hd) rfl hq ho hp q) k
theorem o_getF {R0 O n d : String} {index : Nat} {a : Addr} {v : Value} (X : Here p l e R s m args below meth c Z bytes maxL ret own nm h0 n0 ws EL kn T h vm0 cells slots) (w : (Cond.fieldLink own index R0 n d).before a0 Z = true) (via : Via Z R0 O n d) (F : Fld Z h a O n d v) (hd : decode bytes pc = .ok (.getfield index, 3)) (hp : pc + 3 = pc')
    (k : ∀ T', Here p l e R s m args below meth c Z bytes maxL ret own nm h0 n0 ws EL kn T' h vm0 cells slots → Go p.tables e below P (T'.setTop (mkF m pc' Ls (v :: st)))) : Go p.tables e below P (T.setTop (mkF m pc Ls (.ref a :: st))) := by
  obtain ⟨k0, locs, Y, N, eT, O, K, hx, hby, hml, hret, hlk, hown, hnm, hZ, hS, hk, hC, hEW, hKn, hsh⟩ := X
  subst hp
  obtain ⟨T', Y', e', st'⟩ := RoadKit.getF Y hx hZ hown (host := "") (Or.inl w) via eT F (g := mkF m pc Ls (.ref a :: st)) rfl rfl (hb hby hd)
  exact Go.go st' (k T' ⟨k0, locs, Y', N, e', O, K, hx, hby, hml, hret, hlk, hown, hnm, hZ, hS, hk, hC, hEW, hKn, hsh⟩)
theorem o_getFN {R0 O n d host : String} {index : Nat} {a : Addr} {v : Value} (X : Here p l e R s m args below meth c Z bytes maxL ret own nm h0 n0 ws EL kn T h vm0 cells slots) (w : (Cond.fieldLinkNest own index R0 n d host).before a0 Z = true) (via : Via Z R0 O n d) (F : Fld Z h a O n d v) (hd : decode bytes pc = .ok (.getfield index, 3)) (hp : pc + 3 = pc')
    (k : ∀ T', Here p l e R s m args below meth c Z bytes maxL ret own nm h0 n0 ws EL kn T' h vm0 cells slots → Go p.tables e below P (T'.setTop (mkF m pc' Ls (v :: st)))) : Go p.tables e below P (T.setTop (mkF m pc Ls (.ref a :: st))) := by
  obtain ⟨k0, locs, Y, N, eT, O, K, hx, hby, hml, hret, hlk, hown, hnm, hZ, hS, hk, hC, hEW, hKn, hsh⟩ := X
  subst hp
  obtain ⟨T', Y', e', st'⟩ := RoadKit.getF Y hx hZ hown (Or.inr w) via eT F (g := mkF m pc Ls (.ref a :: st)) rfl rfl (hb hby hd)
  exact Go.go st' (k T' ⟨k0, locs, Y', N, e', O, K, hx, hby, hml, hret, hlk, hown, hnm, hZ, hS, hk, hC, hEW, hKn, hsh⟩)
theorem o_getS {R0 O n d : String} {index : Nat} {v : Value} (X : Here p l e R s m args below meth c Z bytes maxL ret own nm h0 n0 ws EL kn T h vm0 cells slots) (w : (Cond.fieldLink own index R0 n d).before a0 Z = true) (via : Via Z R0 O n d) (F : Sta Z h O n d v) (hd : decode bytes pc = .ok (.getstatic index, 3)) (hp : pc + 3 = pc')
    (k : ∀ T', Here p l e R s m args below meth c Z bytes maxL ret own nm h0 n0 ws EL kn T' h vm0 cells slots → Go p.tables e below P (T'.setTop (mkF m pc' Ls (v :: st)))) : Go p.tables e below P (T.setTop (mkF m pc Ls st)) := by
  obtain ⟨k0, locs, Y, N, eT, O, K, hx, hby, hml, hret, hlk, hown, hnm, hZ, hS, hk, hC, hEW, hKn, hsh⟩ := X
  subst hp
  obtain ⟨T', Y', e', st'⟩ := getS2 Y hx hZ hown (host := "") (Or.inl w) via eT F (g := mkF m pc Ls st) rfl (hb hby hd)
  exact Go.go st' (k T' ⟨k0, locs, Y', N, e', O, K, hx, hby, hml, hret, hlk, hown, hnm, hZ, hS, hk, hC, hEW, hKn, hsh⟩)
theorem o_getSN {R0 O n d host : String} {index : Nat} {v : Value} (X : Here p l e R s m args below meth c Z bytes maxL ret own nm h0 n0 ws EL kn T h vm0 cells slots) (w : (Cond.fieldLinkNest own index R0 n d host).before a0 Z = true) (via : Via Z R0 O n d) (F : Sta Z h O n d v) (hd : decode bytes pc = .ok (.getstatic index, 3)) (hp : pc + 3 = pc')
    (k : ∀ T', Here p l e R s m args below meth c Z bytes maxL ret own nm h0 n0 ws EL kn T' h vm0 cells slots → Go p.tables e below P (T'.setTop (mkF m pc' Ls (v :: st)))) : Go p.tables e below P (T.setTop (mkF m pc Ls st)) := by
  obtain ⟨k0, locs, Y, N, eT, O, K, hx, hby, hml, hret, hlk, hown, hnm, hZ, hS, hk, hC, hEW, hKn, hsh⟩ := X
  subst hp
  obtain ⟨T', Y', e', st'⟩ := getS2 Y hx hZ hown (Or.inr w) via eT F (g := mkF m pc Ls st) rfl (hb hby hd)
  exact Go.go st' (k T' ⟨k0, locs, Y', N, e', O, K, hx, hby, hml, hret, hlk, hown, hnm, hZ, hS, hk, hC, hEW, hKn, hsh⟩)
theorem o_castY {K' : String} {index : Nat} {a : Addr} (X : Here p l e R s m args below meth c Z bytes maxL ret own nm h0 n0 ws EL kn T h vm0 cells slots) (w : (Cond.classLink own index K').before a0 Z = true) (F : Ins Z h a K' true) (hd : decode bytes pc = .ok (.checkcast index, 3)) (hp : pc + 3 = pc')
    (k : ∀ T', Here p l e R s m args below meth c Z bytes maxL ret own nm h0 n0 ws EL kn T' h vm0 cells slots → Go p.tables e below P (T'.setTop (mkF m pc' Ls (.ref a :: st)))) : Go p.tables e below P (T.setTop (mkF m pc Ls (.ref a :: st))) := by
  obtain ⟨k0, locs, Y, N, eT, O, K, hx, hby, hml, hret, hlk, hown, hnm, hZ, hS, hk, hC, hEW, hKn, hsh⟩ := X
  subst hp
  obtain ⟨T', Y', e', st'⟩ := RoadKit.castY Y hx hZ hown w eT F (g := mkF m pc Ls (.ref a :: st)) rfl rfl (hb hby hd)
  exact Go.go st' (k T' ⟨k0, locs, Y', N, e', O, K, hx, hby, hml, hret, hlk, hown, hnm, hZ, hS, hk, hC, hEW, hKn, hsh⟩)
theorem o_instY {K' : String} {index : Nat} {a : Addr} (X : Here p l e R s m args below meth c Z bytes maxL ret own nm h0 n0 ws EL kn T h vm0 cells slots) (w : (Cond.classLink own index K').before a0 Z = true) (F : Ins Z h a K' true) (hd : decode bytes pc = .ok (.instanceof index, 3)) (hp : pc + 3 = pc')
    (k : ∀ T', Here p l e R s m args below meth c Z bytes maxL ret own nm h0 n0 ws EL kn T' h vm0 cells slots → Go p.tables e below P (T'.setTop (mkF m pc' Ls (.int 1 :: st)))) : Go p.tables e below P (T.setTop (mkF m pc Ls (.ref a :: st))) := by
  obtain ⟨k0, locs, Y, N, eT, O, K, hx, hby, hml, hret, hlk, hown, hnm, hZ, hS, hk, hC, hEW, hKn, hsh⟩ := X
  subst hp
  obtain ⟨T', Y', e', st'⟩ := RoadKit.instY Y hx hZ hown w eT F (g := mkF m pc Ls (.ref a :: st)) rfl rfl (hb hby hd)
  exact Go.go st' (k T' ⟨k0, locs, Y', N, e', O, K, hx, hby, hml, hret, hlk, hown, hnm, hZ, hS, hk, hC, hEW, hKn, hsh⟩)
theorem o_instNo {K' C : String} {index : Nat} {a : Addr} (X : Here p l e R s m args below meth c Z bytes maxL ret own nm h0 n0 ws EL kn T h vm0 cells slots) (w : (Cond.classLink own index K').before a0 Z = true) (E : Exa Z h a C) (F : ∃ c t, Z.vm.findClass C = some c ∧ Z.vm.findClass K' = some t ∧ Z.vm.assignable c t = false) (hd : decode bytes pc = .ok (.instanceof index, 3)) (hp : pc + 3 = pc')
    (k : ∀ T', Here p l e R s m args below meth c Z bytes maxL ret own nm h0 n0 ws EL kn T' h vm0 cells slots → Go p.tables e below P (T'.setTop (mkF m pc' Ls (.int 0 :: st)))) : Go p.tables e below P (T.setTop (mkF m pc Ls (.ref a :: st))) := by
  obtain ⟨k0, locs, Y, N, eT, O, K, hx, hby, hml, hret, hlk, hown, hnm, hZ, hS, hk, hC, hEW, hKn, hsh⟩ := X
  subst hp
  obtain ⟨T', Y', e', st'⟩ := RoadKit.instNo Y hx hZ hown w eT E F (g := mkF m pc Ls (.ref a :: st)) rfl rfl (hb hby hd)
  exact Go.go st' (k T' ⟨k0, locs, Y', N, e', O, K, hx, hby, hml, hret, hlk, hown, hnm, hZ, hS, hk, hC, hEW, hKn, hsh⟩)
theorem o_initO {idx W : Nat} {a : Addr} (X : Here p l e R s m args below meth c Z bytes maxL ret own nm h0 n0 ws EL kn T h vm0 cells slots) (w1 : (Cond.methodLink own idx Lib.objectInit).before a0 Z = true) (w2 : (Cond.instanceMethod Lib.objectInit).before a0 Z = true) (w3 : (Cond.code Lib.objectInit ⟨#[0xb1]⟩ 1 none).before a0 Z = true) (hsz : Ls.size = maxL) (hf : 1 ≤ R.frames) (hW : (st.map fun v => v.category).sum ≤ W) (hl : W + 12 ≤ R.locals) (hd : decode bytes pc = .ok (.invokespecial idx, 3)) (hp : pc + 3 = pc')
    (k : ∀ T', Here p l e R s m args below meth c Z bytes maxL ret own nm h0 n0 ws EL kn T' h vm0 cells slots → Go p.tables e below P (T'.setTop (mkF m pc' Ls st))) : Go p.tables e below P (T.setTop (mkF m pc Ls (.ref a :: st))) := by
  obtain ⟨k0, locs, Y, N, eT, O, K, hx, hby, hml, hret, hlk, hown, hnm, hZ, hS, hk, hC, hEW, hKn, hsh⟩ := X
  subst hp
  obtain ⟨T', Y', e', st'⟩ := RoadKit.initO Y hx hZ hown w1 w2 w3 eT (g := mkF m pc Ls (.ref a :: st)) rfl (by rw [hml]; exact hsz) rfl (hb hby hd) hf (W := W) (by show 2 * 0 + _ ≤ _; omega) hl
  exact Go.go st' (k T' ⟨k0, locs, Y', N, e', O, K, hx, hby, hml, hret, hlk, hown, hnm, hZ, hS, hk, hC, hEW, hKn, hsh⟩)
theorem o_instNull {index : Nat} (X : Here p l e R s m args below meth c Z bytes maxL ret own nm h0 n0 ws EL kn T h vm0 cells slots) (hd : decode bytes pc = .ok (.instanceof index, 3)) (hp : pc + 3 = pc')
    (k : Go p.tables e below P (T.setTop (mkF m pc' Ls (.int 0 :: st)))) : Go p.tables e below P (T.setTop (mkF m pc Ls (.null :: st))) := by
  obtain ⟨k0, locs, Y, N, eT, O, K, hx, hby, hml, hret, hlk, hown, hnm, hZ, hS, hk, hC, hEW, hKn, hsh⟩ := X
  subst hp
  exact Go.go (Y.instanceofNull hx (g := mkF m pc Ls (.null :: st)) rfl rfl (hb hby hd)) k
theorem o_castNull {index : Nat} (X : Here p l e R s m args below meth c Z bytes maxL ret own nm h0 n0 ws EL kn T h vm0 cells slots) (hd : decode bytes pc = .ok (.checkcast index, 3)) (hp : pc + 3 = pc')
    (k : Go p.tables e below P (T.setTop (mkF m pc' Ls (.null :: st)))) : Go p.tables e below P (T.setTop (mkF m pc Ls (.null :: st))) := by
  obtain ⟨k0, locs, Y, N, eT, O, K, hx, hby, hml, hret, hlk, hown, hnm, hZ, hS, hk, hC, hEW, hKn, hsh⟩ := X
  subst hp
  exact Go.go (Y.checkcastNull hx (g := mkF m pc Ls (.null :: st)) rfl rfl (hb hby hd)) k
theorem o_len {a : Addr} {ka : ClassId} {ty : FieldType} {n : Int32} {vs : List Value} {d : Value} (X : Here p l e R s m args below meth c Z bytes maxL ret own nm h0 n0 ws EL kn T h vm0 cells slots) (F : Arv Z h a ka ty n vs d) (hd : decode bytes pc = .ok (.arraylength, 1)) (hp : pc + 1 = pc')
    (k : Go p.tables e below P (T.setTop (mkF m pc' Ls (.int n :: st)))) : Go p.tables e below P (T.setTop (mkF m pc Ls (.ref a :: st))) := by
  obtain ⟨k0, locs, Y, N, eT, O, K, hx, hby, hml, hret, hlk, hown, hnm, hZ, hS, hk, hC, hEW, hKn, hsh⟩ := X
  subst hp
  obtain ⟨cl, A, -, S, q, -⟩ := F
  refine Go.go (Y.arraylength hx (by rw [eT]; exact A.1) (State.isArrayOf_alike hZ.alike A.2.1) (g := mkF m pc Ls (.ref a :: st)) rfl rfl (hb hby hd)) ?_
  rw [len_of S q]
  exact k
theorem o_iaload {a : Addr} {ka : ClassId} {n j : Int32} {vs : List Value} {d v : Value} (X : Here p l e R s m args below meth c Z bytes maxL ret own nm h0 n0 ws EL kn T h vm0 cells slots) (F : Arv Z h a ka .int n vs d) (hj : ¬ j < 0 ∧ j < n) (hv : vs.getD j.toNatClampNeg d = v) (hd : decode bytes pc = .ok (.iaload, 1)) (hp : pc + 1 = pc')
    (k : Go p.tables e below P (T.setTop (mkF m pc' Ls (v :: st)))) : Go p.tables e below P (T.setTop (mkF m pc Ls (.int j :: .ref a :: st))) := by
  obtain ⟨k0, locs, Y, N, eT, O, K, hx, hby, hml, hret, hlk, hown, hnm, hZ, hS, hk, hC, hEW, hKn, hsh⟩ := X
  subst hp
  obtain ⟨cl, A, -, S, q, H, -⟩ := F
  have hin := inb_of S hj
  exact Go.go (Y.iaload hx (by rw [eT]; exact A.1) (State.isArrayOf_alike hZ.alike A.2.1) A.2.2 hin (H.at hin hv) (g := mkF m pc Ls (.int j :: .ref a :: st)) rfl rfl (hb hby hd)) k
theorem o_caload {a : Addr} {ka : ClassId} {n j : Int32} {vs : List Value} {d v : Value} (X : Here p l e R s m args below meth c Z bytes maxL ret own nm h0 n0 ws EL kn T h vm0 cells slots) (F : Arv Z h a ka .char n vs d) (hj : ¬ j < 0 ∧ j < n) (hv : vs.getD j.toNatClampNeg d = v) (hd : decode bytes pc = .ok (.caload, 1)) (hp : pc + 1 = pc')
    (k : Go p.tables e below P (T.setTop (mkF m pc' Ls (v :: st)))) : Go p.tables e below P (T.setTop (mkF m pc Ls (.int j :: .ref a :: st))) := by
  obtain ⟨k0, locs, Y, N, eT, O, K, hx, hby, hml, hret, hlk, hown, hnm, hZ, hS, hk, hC, hEW, hKn, hsh⟩ := X
  subst hp
  obtain ⟨cl, A, -, S, q, H, -⟩ := F
  have hin := inb_of S hj
  exact Go.go (Y.caload hx (by rw [eT]; exact A.1) (State.isArrayOf_alike hZ.alike A.2.1) A.2.2 hin (H.at hin hv) (g := mkF m pc Ls (.int j :: .ref a :: st)) rfl rfl (hb hby hd)) k
theorem o_baload {a : Addr} {ka : ClassId} {n j : Int32} {vs : List Value} {d v : Value} (X : Here p l e R s m args below meth c Z bytes maxL ret own nm h0 n0 ws EL kn T h vm0 cells slots) (F : Arv Z h a ka .byte n vs d) (hj : ¬ j < 0 ∧ j < n) (hv : vs.getD j.toNatClampNeg d = v) (hd : decode bytes pc = .ok (.baload, 1)) (hp : pc + 1 = pc')
    (k : Go p.tables e below P (T.setTop (mkF m pc' Ls (v :: st)))) : Go p.tables e below P (T.setTop (mkF m pc Ls (.int j :: .ref a :: st))) := by
  obtain ⟨k0, locs, Y, N, eT, O, K, hx, hby, hml, hret, hlk, hown, hnm, hZ, hS, hk, hC, hEW, hKn, hsh⟩ := X
  subst hp
  obtain ⟨cl, A, -, S, q, H, -⟩ := F
  have hin := inb_of S hj
  exact Go.go (Y.baloadBytes hx (by rw [eT]; exact A.1) (State.isArrayOf_alike hZ.alike A.2.1) A.2.2 hin (H.at hin hv) (g := mkF m pc Ls (.int j :: .ref a :: st)) rfl rfl (hb hby hd)) k
theorem o_laload {a : Addr} {ka : ClassId} {n j : Int32} {vs : List Value} {d v : Value} (X : Here p l e R s m args below meth c Z bytes maxL ret own nm h0 n0 ws EL kn T h vm0 cells slots) (F : Arv Z h a ka .long n vs d) (hj : ¬ j < 0 ∧ j < n) (hv : vs.getD j.toNatClampNeg d = v) (hd : decode bytes pc = .ok (.laload, 1)) (hp : pc + 1 = pc')
    (k : Go p.tables e below P (T.setTop (mkF m pc' Ls (v :: st)))) : Go p.tables e below P (T.setTop (mkF m pc Ls (.int j :: .ref a :: st))) := by
  obtain ⟨k0, locs, Y, N, eT, O, K, hx, hby, hml, hret, hlk, hown, hnm, hZ, hS, hk, hC, hEW, hKn, hsh⟩ := X
  subst hp
  obtain ⟨cl, A, -, S, q, H, -⟩ := F
  have hin := inb_of S hj
  exact Go.go (Y.laload hx (by rw [eT]; exact A.1) (State.isArrayOf_alike hZ.alike A.2.1) A.2.2 hin (H.at hin hv) (g := mkF m pc Ls (.int j :: .ref a :: st)) rfl rfl (hb hby hd)) k
theorem o_saload {a : Addr} {ka : ClassId} {n j : Int32} {vs : List Value} {d v : Value} (X : Here p l e R s m args below meth c Z bytes maxL ret own nm h0 n0 ws EL kn T h vm0 cells slots) (F : Arv Z h a ka .short n vs d) (hj : ¬ j < 0 ∧ j < n) (hv : vs.getD j.toNatClampNeg d = v) (hd : decode bytes pc = .ok (.saload, 1)) (hp : pc + 1 = pc')
    (k : Go p.tables e below P (T.setTop (mkF m pc' Ls (v :: st)))) : Go p.tables e below P (T.setTop (mkF m pc Ls (.int j :: .ref a :: st))) := by
  obtain ⟨k0, locs, Y, N, eT, O, K, hx, hby, hml, hret, hlk, hown, hnm, hZ, hS, hk, hC, hEW, hKn, hsh⟩ := X
  subst hp
  obtain ⟨cl, A, -, S, q, H, -⟩ := F
  have hin := inb_of S hj
  exact Go.go (Y.saload hx (by rw [eT]; exact A.1) (State.isArrayOf_alike hZ.alike A.2.1) A.2.2 hin (H.at hin hv) (g := mkF m pc Ls (.int j :: .ref a :: st)) rfl rfl (hb hby hd)) k
theorem o_aaload {a : Addr} {ka : ClassId} {ty : FieldType} {n j : Int32} {vs : List Value} {d v : Value} (X : Here p l e R s m args below meth c Z bytes maxL ret own nm h0 n0 ws EL kn T h vm0 cells slots) (F : Arv Z h a ka ty n vs d) (hty : ty.isReference = true) (hj : ¬ j < 0 ∧ j < n) (hv : vs.getD j.toNatClampNeg d = v) (hd : decode bytes pc = .ok (.aaload, 1)) (hp : pc + 1 = pc')
    (k : Go p.tables e below P (T.setTop (mkF m pc' Ls (v :: st)))) : Go p.tables e below P (T.setTop (mkF m pc Ls (.int j :: .ref a :: st))) := by
  obtain ⟨k0, locs, Y, N, eT, O, K, hx, hby, hml, hret, hlk, hown, hnm, hZ, hS, hk, hC, hEW, hKn, hsh⟩ := X
  subst hp
  obtain ⟨cl, A, -, S, q, H, -⟩ := F
  have hin := inb_of S hj
  exact Go.go (Y.aaload hx (by rw [eT]; exact A.1) (State.isArrayOf_alike hZ.alike A.2.1) hty A.2.2 hin (H.at hin hv) (g := mkF m pc Ls (.int j :: .ref a :: st)) rfl rfl (hb hby hd)) k
theorem o_new {C : String} {index kk : Nat} (X : Here p l e R s m args below meth c Z bytes maxL ret own nm h0 n0 ws EL kn T h vm0 cells slots) (w : (Cond.classLink own index C).before a0 Z = true) (wi : (Cond.instantiable C kk).before a0 Z = true) (wz : (Cond.initialized C).before a0 Z = true) (hd : decode bytes pc = .ok (.new index, 3)) (hp : pc + 3 = pc') (hc : cells + 1 ≤ R.cells) (hl : slots + kk ≤ R.slots)
    (k : ∀ T' h' b, Here p l e R s m args below meth c Z bytes maxL ret own nm h0 n0 ws EL kn T' h' vm0 (cells + 1) (slots + kk) → b = h.size → b < h'.size → Ext h h' → Exa Z h' b C → (∀ {O nm d : String} {ty : FieldType}, Laid Z a0 C O nm d → parseFieldDescriptor d = some ty → Fld Z h' b O nm d (defaultValue ty)) → Unt h' b → CHr Z EL vm0 h vm0 h' → Safe Z EL vm0 h' b → Go p.tables e below P (T'.setTop (mkF m pc' Ls (.ref b :: st)))) : Go p.tables e below P (T.setTop (mkF m pc Ls st)) := by
  obtain ⟨k0, locs, Y, N, eT, O, K, hx, hby, hml, hret, hlk, hown, hnm, hZ, hS, hk, hC, hEW, hKn, hsh⟩ := X
  subst hp
  obtain ⟨T', h', Y', e', E', A', D', U', st'⟩ := newO Y hx hZ hown w wi wz eT (g := mkF m pc Ls st) rfl (hb hby hd) hc hl
  exact Go.go st' (k T' h' _ ⟨k0, locs, Y', N, e', O.ext E', K.ext E', hx, hby, hml, hret, hlk, hown, hnm, hZ, hS, Nat.le_trans hk E'.1, hC.trans (CHr.ext E' hC.1), hEW, hKn, hsh⟩ rfl A'.lt E' A' D' U' (CHr.ext E' hC.1) (Safe.ext E' hC.1 (Safe.new (Nat.le_refl _))))
theorem o_newP {aty : ArrayType} {n : Int32} {cap : Nat} {ad : String} (X : Here p l e R s m args below meth c Z bytes maxL ret own nm h0 n0 ws EL kn T h vm0 cells slots) (w : (Cond.arrayClass (newarray.typeOf aty)).before a0 Z = true) (hd : decode bytes pc = .ok (.newarray aty, 2)) (hp : pc + 2 = pc') (hn : ¬ n < 0) (hcap : n.toNatClampNeg ≤ cap) (hb' : cap * 8 ≤ 536870912) (hc : cells + 1 ≤ R.cells) (hl : slots + cap ≤ R.slots) (had : "[" ++ (newarray.typeOf aty).toString = ad)
    (k : ∀ T' h' b ka, Here p l e R s m args below meth c Z bytes maxL ret own nm h0 n0 ws EL kn T' h' vm0 (cells + 1) (slots + cap) → b = h.size → b < h'.size → Ext h h' → Arv Z h' b ka (newarray.typeOf aty) n [] (defaultValue (newarray.typeOf aty)) → Exa Z h' b ad → CHr Z EL vm0 h vm0 h' → Safe Z EL vm0 h' b → Go p.tables e below P (T'.setTop (mkF m pc' Ls (.ref b :: st)))) : Go p.tables e below P (T.setTop (mkF m pc Ls (.int n :: st))) := by
  obtain ⟨k0, locs, Y, N, eT, O, K, hx, hby, hml, hret, hlk, hown, hnm, hZ, hS, hk, hC, hEW, hKn, hsh⟩ := X
  subst hp
  obtain ⟨T', h', ka, Y', e', E', A', B', st'⟩ := newPE Y hx hZ w eT (g := mkF m pc Ls (.int n :: st)) rfl (hb hby hd) rfl hn hcap hb' hc hl had
  exact Go.go st' (k T' h' _ ka ⟨k0, locs, Y', N, e', O.ext E', K.ext E', hx, hby, hml, hret, hlk, hown, hnm, hZ, hS, Nat.le_trans hk E'.1, hC.trans (CHr.ext E' hC.1), hEW, hKn, hsh⟩ rfl A'.lt E' (Arv.new A' hn) B' (CHr.ext E' hC.1) (Safe.ext E' hC.1 (Safe.new (Nat.le_refl _))))
theorem o_newR {C ad : String} {index : Nat} {n : Int32} {cap : Nat} (X : Here p l e R s m args below meth c Z bytes maxL ret own nm h0 n0 ws EL kn T h vm0 cells slots) (w : (Cond.classLink own index C).before a0 Z = true) (w2 : (Cond.arrayOver (.object C)).before a0 Z = true) (hd : decode bytes pc = .ok (.anewarray index, 3)) (hp : pc + 3 = pc') (hn : ¬ n < 0) (hcap : n.toNatClampNeg ≤ cap) (hb' : cap * 8 ≤ 536870912) (hc : cells + 1 ≤ R.cells) (hl : slots + cap ≤ R.slots) (had : "[" ++ (FieldType.object C).toString = ad)
    (k : ∀ T' h' b ka, Here p l e R s m args below meth c Z bytes maxL ret own nm h0 n0 ws EL kn T' h' vm0 (cells + 1) (slots + cap) → b = h.size → b < h'.size → Ext h h' → Arv Z h' b ka (.object C) n [] .null → Ovr Z ka C → Exa Z h' b ad → CHr Z EL vm0 h vm0 h' → Safe Z EL vm0 h' b → Go p.tables e below P (T'.setTop (mkF m pc' Ls (.ref b :: st)))) : Go p.tables e below P (T.setTop (mkF m pc Ls (.int n :: st))) := by
  obtain ⟨k0, locs, Y, N, eT, O, K, hx, hby, hml, hret, hlk, hown, hnm, hZ, hS, hk, hC, hEW, hKn, hsh⟩ := X
  subst hp
  obtain ⟨T', h', ka, Y', e', E', A', B', V', st'⟩ := newRE Y hx hZ hown w w2 eT (g := mkF m pc Ls (.int n :: st)) rfl (hb hby hd) rfl hn hcap hb' hc hl had
  exact Go.go st' (k T' h' _ ka ⟨k0, locs, Y', N, e', O.ext E', K.ext E', hx, hby, hml, hret, hlk, hown, hnm, hZ, hS, Nat.le_trans hk E'.1, hC.trans (CHr.ext E' hC.1), hEW, hKn, hsh⟩ rfl A'.lt E' (Arv.new A' hn) V' B' (CHr.ext E' hC.1) (Safe.ext E' hC.1 (Safe.new (Nat.le_refl _))))
theorem o_putF {R0 O n d C : String} {index kk : Nat} {ty : FieldType} {a : Addr} {v v' old : Value} (X : Here p l e R s m args below meth c Z bytes maxL ret own nm h0 n0 ws EL kn T h vm0 cells slots) (w : (Cond.fieldLink own index R0 n d).before a0 Z = true) (via : Via Z R0 O n d) (F : Fld Z h a O n d old) (E : Exa Z h a C) (L : (Cond.lays C O n d).before a0 Z = true ∨ ((Cond.laysFinal C O n d).before a0 Z = true ∧ own = O ∧ nm = "<init>")) (wi : (Cond.instantiable C kk).before a0 Z = true) (hty : parseFieldDescriptor d = some ty) (hv : narrow ty v = v') (hf : fits ty v' = true) (hd : decode bytes pc = .ok (.putfield index, 3)) (hp : pc + 3 = pc') (hn0 : n0 ≤ a) (hws : a ∈ ws ∨ h0.size ≤ a) (hsf : Safe Z EL vm0 h a)
    (k : ∀ T' h', Here p l e R s m args below meth c Z bytes maxL ret own nm h0 n0 ws EL kn T' h' vm0 cells slots → Wr h h' a (RoadKit.slotOf Z O n d) v' → CHr Z EL vm0 h vm0 h' → Go p.tables e below P (T'.setTop (mkF m pc' Ls st))) : Go p.tables e below P (T.setTop (mkF m pc Ls (v :: .ref a :: st))) := by
  obtain ⟨k0, locs, Y, N, eT, O, K, hx, hby, hml, hret, hlk, hown, hnm, hZ, hS, hk, hC, hEW, hKn, hsh⟩ := X
  subst hp
  obtain ⟨T', h', Y', e', W', st'⟩ := putFN Y hx hZ hown w via eT F E (L.imp id fun q => ⟨q.1, q.2.1, hnm.trans q.2.2⟩) wi hty hv hf (g := mkF m pc Ls (v :: .ref a :: st)) rfl rfl (hb hby hd)
  exact Go.go st' (k T' h' ⟨k0, _, Y', Fr.snoc Y' N hn0, e', O.wr W' hn0, K.wr W' hws, hx, hby, hml, hret, hlk, hown, hnm, hZ, hS, by rw [W'.size]; exact hk, hC.trans (CHr.wr W' hsf hC.1), hEW, hKn, hsh⟩ W' (CHr.wr W' hsf hC.1))
theorem o_stC {a : Addr} {ka : ClassId} {n j : Int32} {x y : Int32} {i : Nat} {vs : List Value} {d : Value} (X : Here p l e R s m args below meth c Z bytes maxL ret own nm h0 n0 ws EL kn T h vm0 cells slots) (F : Arv Z h a ka .char n vs d) (hj : ¬ j < 0 ∧ j < n) (hi : j.toNatClampNeg = i) (hil : i < vs.length) (hv : nar .char x = y) (hd : decode bytes pc = .ok (.castore, 1)) (hp : pc + 1 = pc') (hn0 : n0 ≤ a) (hws : a ∈ ws ∨ h0.size ≤ a) (hsf : Safe Z EL vm0 h a)
    (k : ∀ T' h', Here p l e R s m args below meth c Z bytes maxL ret own nm h0 n0 ws EL kn T' h' vm0 cells slots → (∃ sl w, Wr h h' a sl w) → CHr Z EL vm0 h vm0 h' → Arv Z h' a ka .char n (vs.set i (.int y)) d → Go p.tables e below P (T'.setTop (mkF m pc' Ls st))) : Go p.tables e below P (T.setTop (mkF m pc Ls (.int x :: .int j :: .ref a :: st))) := by
  obtain ⟨k0, locs, Y, N, eT, O, K, hx, hby, hml, hret, hlk, hown, hnm, hZ, hS, hk, hC, hEW, hKn, hsh⟩ := X
  subst hp hv
  obtain ⟨cl, A, q1, S, q, H, G⟩ := F
  obtain ⟨T', h', Y', e', W', st'⟩ := RoadKit.stC Y hx hZ eT A (inb_of S hj) (g := mkF m pc Ls (.int x :: .int j :: .ref a :: st)) rfl rfl (hb hby hd)
  exact Go.go st' (k T' h' ⟨k0, _, Y', Fr.snoc Y' N hn0, e', O.wr W' hn0, K.wr W' hws, hx, hby, hml, hret, hlk, hown, hnm, hZ, hS, by rw [W'.size]; exact hk, hC.trans (CHr.wr W' hsf hC.1), hEW, hKn, hsh⟩ ⟨_, _, W'⟩ (CHr.wr W' hsf hC.1) (Arv.set A q1 S q H G (fits_nar_char _) W' i hi hil))
theorem o_stB {a : Addr} {ka : ClassId} {n j : Int32} {x y : Int32} {i : Nat} {vs : List Value} {d : Value} (X : Here p l e R s m args below meth c Z bytes maxL ret own nm h0 n0 ws EL kn T h vm0 cells slots) (F : Arv Z h a ka .byte n vs d) (hj : ¬ j < 0 ∧ j < n) (hi : j.toNatClampNeg = i) (hil : i < vs.length) (hv : nar .byte x = y) (hd : decode bytes pc = .ok (.bastore, 1)) (hp : pc + 1 = pc') (hn0 : n0 ≤ a) (hws : a ∈ ws ∨ h0.size ≤ a) (hsf : Safe Z EL vm0 h a)
    (k : ∀ T' h', Here p l e R s m args below meth c Z bytes maxL ret own nm h0 n0 ws EL kn T' h' vm0 cells slots → (∃ sl w, Wr h h' a sl w) → CHr Z EL vm0 h vm0 h' → Arv Z h' a ka .byte n (vs.set i (.int y)) d → Go p.tables e below P (T'.setTop (mkF m pc' Ls st))) : Go p.tables e below P (T.setTop (mkF m pc Ls (.int x :: .int j :: .ref a :: st))) := by
  obtain ⟨k0, locs, Y, N, eT, O, K, hx, hby, hml, hret, hlk, hown, hnm, hZ, hS, hk, hC, hEW, hKn, hsh⟩ := X
  subst hp hv
  obtain ⟨cl, A, q1, S, q, H, G⟩ := F
  obtain ⟨T', h', Y', e', W', st'⟩ := RoadKit.stB Y hx hZ eT A (inb_of S hj) (g := mkF m pc Ls (.int x :: .int j :: .ref a :: st)) rfl rfl (hb hby hd)
  exact Go.go st' (k T' h' ⟨k0, _, Y', Fr.snoc Y' N hn0, e', O.wr W' hn0, K.wr W' hws, hx, hby, hml, hret, hlk, hown, hnm, hZ, hS, by rw [W'.size]; exact hk, hC.trans (CHr.wr W' hsf hC.1), hEW, hKn, hsh⟩ ⟨_, _, W'⟩ (CHr.wr W' hsf hC.1) (Arv.set A q1 S q H G (fits_nar_byte _) W' i hi hil))
theorem o_stI {a : Addr} {ka : ClassId} {n j : Int32} {x y : Int32} {i : Nat} {vs : List Value} {d : Value} (X : Here p l e R s m args below meth c Z bytes maxL ret own nm h0 n0 ws EL kn T h vm0 cells slots) (F : Arv Z h a ka .int n vs d) (hj : ¬ j < 0 ∧ j < n) (hi : j.toNatClampNeg = i) (hil : i < vs.length) (hv : x = y) (hd : decode bytes pc = .ok (.iastore, 1)) (hp : pc + 1 = pc') (hn0 : n0 ≤ a) (hws : a ∈ ws ∨ h0.size ≤ a) (hsf : Safe Z EL vm0 h a)
    (k : ∀ T' h', Here p l e R s m args below meth c Z bytes maxL ret own nm h0 n0 ws EL kn T' h' vm0 cells slots → (∃ sl w, Wr h h' a sl w) → CHr Z EL vm0 h vm0 h' → Arv Z h' a ka .int n (vs.set i (.int y)) d → Go p.tables e below P (T'.setTop (mkF m pc' Ls st))) : Go p.tables e below P (T.setTop (mkF m pc Ls (.int x :: .int j :: .ref a :: st))) := by
  obtain ⟨k0, locs, Y, N, eT, O, K, hx, hby, hml, hret, hlk, hown, hnm, hZ, hS, hk, hC, hEW, hKn, hsh⟩ := X
  subst hp hv
  obtain ⟨cl, A, q1, S, q, H, G⟩ := F
  obtain ⟨T', h', Y', e', W', st'⟩ := RoadKit.stI Y hx hZ eT A (inb_of S hj) (g := mkF m pc Ls (.int x :: .int j :: .ref a :: st)) rfl rfl (hb hby hd)
  exact Go.go st' (k T' h' ⟨k0, _, Y', Fr.snoc Y' N hn0, e', O.wr W' hn0, K.wr W' hws, hx, hby, hml, hret, hlk, hown, hnm, hZ, hS, by rw [W'.size]; exact hk, hC.trans (CHr.wr W' hsf hC.1), hEW, hKn, hsh⟩ ⟨_, _, W'⟩ (CHr.wr W' hsf hC.1) (Arv.set A q1 S q H G (rfl) W' i hi hil))
theorem o_stJ {a : Addr} {ka : ClassId} {n j : Int32} {x y : Int64} {i : Nat} {vs : List Value} {d : Value} (X : Here p l e R s m args below meth c Z bytes maxL ret own nm h0 n0 ws EL kn T h vm0 cells slots) (F : Arv Z h a ka .long n vs d) (hj : ¬ j < 0 ∧ j < n) (hi : j.toNatClampNeg = i) (hil : i < vs.length) (hv : x = y) (hd : decode bytes pc = .ok (.lastore, 1)) (hp : pc + 1 = pc') (hn0 : n0 ≤ a) (hws : a ∈ ws ∨ h0.size ≤ a) (hsf : Safe Z EL vm0 h a)
    (k : ∀ T' h', Here p l e R s m args below meth c Z bytes maxL ret own nm h0 n0 ws EL kn T' h' vm0 cells slots → (∃ sl w, Wr h h' a sl w) → CHr Z EL vm0 h vm0 h' → Arv Z h' a ka .long n (vs.set i (.long y)) d → Go p.tables e below P (T'.setTop (mkF m pc' Ls st))) : Go p.tables e below P (T.setTop (mkF m pc Ls (.long x :: .int j :: .ref a :: st))) := by
  obtain ⟨k0, locs, Y, N, eT, O, K, hx, hby, hml, hret, hlk, hown, hnm, hZ, hS, hk, hC, hEW, hKn, hsh⟩ := X
  subst hp hv
  obtain ⟨cl, A, q1, S, q, H, G⟩ := F
  obtain ⟨T', h', Y', e', W', st'⟩ := RoadKit.stJ Y hx hZ eT A (inb_of S hj) (g := mkF m pc Ls (.long x :: .int j :: .ref a :: st)) rfl rfl (hb hby hd)
  exact Go.go st' (k T' h' ⟨k0, _, Y', Fr.snoc Y' N hn0, e', O.wr W' hn0, K.wr W' hws, hx, hby, hml, hret, hlk, hown, hnm, hZ, hS, by rw [W'.size]; exact hk, hC.trans (CHr.wr W' hsf hC.1), hEW, hKn, hsh⟩ ⟨_, _, W'⟩ (CHr.wr W' hsf hC.1) (Arv.set A q1 S q H G (rfl) W' i hi hil))
theorem o_stS {a : Addr} {ka : ClassId} {n j : Int32} {x y : Int32} {i : Nat} {vs : List Value} {d : Value} (X : Here p l e R s m args below meth c Z bytes maxL ret own nm h0 n0 ws EL kn T h vm0 cells slots) (F : Arv Z h a ka .short n vs d) (hj : ¬ j < 0 ∧ j < n) (hi : j.toNatClampNeg = i) (hil : i < vs.length) (hv : nar .short x = y) (hd : decode bytes pc = .ok (.sastore, 1)) (hp : pc + 1 = pc') (hn0 : n0 ≤ a) (hws : a ∈ ws ∨ h0.size ≤ a) (hsf : Safe Z EL vm0 h a)
    (k : ∀ T' h', Here p l e R s m args below meth c Z bytes maxL ret own nm h0 n0 ws EL kn T' h' vm0 cells slots → (∃ sl w, Wr h h' a sl w) → CHr Z EL vm0 h vm0 h' → Arv Z h' a ka .short n (vs.set i (.int y)) d → Go p.tables e below P (T'.setTop (mkF m pc' Ls st))) : Go p.tables e below P (T.setTop (mkF m pc Ls (.int x :: .int j :: .ref a :: st))) := by
  obtain ⟨k0, locs, Y, N, eT, O, K, hx, hby, hml, hret, hlk, hown, hnm, hZ, hS, hk, hC, hEW, hKn, hsh⟩ := X
  subst hp hv
  obtain ⟨cl, A, q1, S, q, H, G⟩ := F
  obtain ⟨T', h', Y', e', W', st'⟩ := RoadKit.stS Y hx hZ eT A (inb_of S hj) (g := mkF m pc Ls (.int x :: .int j :: .ref a :: st)) rfl rfl (hb hby hd)
  exact Go.go st' (k T' h' ⟨k0, _, Y', Fr.snoc Y' N hn0, e', O.wr W' hn0, K.wr W' hws, hx, hby, hml, hret, hlk, hown, hnm, hZ, hS, by rw [W'.size]; exact hk, hC.trans (CHr.wr W' hsf hC.1), hEW, hKn, hsh⟩ ⟨_, _, W'⟩ (CHr.wr W' hsf hC.1) (Arv.set A q1 S q H G (fits_nar_short _) W' i hi hil))
theorem o_stZ {a : Addr} {ka : ClassId} {n j : Int32} {x y : Int32} {i : Nat} {vs : List Value} {d : Value} (X : Here p l e R s m args below meth c Z bytes maxL ret own nm h0 n0 ws EL kn T h vm0 cells slots) (F : Arv Z h a ka .boolean n vs d) (hj : ¬ j < 0 ∧ j < n) (hi : j.toNatClampNeg = i) (hil : i < vs.length) (hv : nar .boolean x = y) (hd : decode bytes pc = .ok (.bastore, 1)) (hp : pc + 1 = pc') (hn0 : n0 ≤ a) (hws : a ∈ ws ∨ h0.size ≤ a) (hsf : Safe Z EL vm0 h a)
    (k : ∀ T' h', Here p l e R s m args below meth c Z bytes maxL ret own nm h0 n0 ws EL kn T' h' vm0 cells slots → (∃ sl w, Wr h h' a sl w) → CHr Z EL vm0 h vm0 h' → Arv Z h' a ka .boolean n (vs.set i (.int y)) d → Go p.tables e below P (T'.setTop (mkF m pc' Ls st))) : Go p.tables e below P (T.setTop (mkF m pc Ls (.int x :: .int j :: .ref a :: st))) := by
  obtain ⟨k0, locs, Y, N, eT, O, K, hx, hby, hml, hret, hlk, hown, hnm, hZ, hS, hk, hC, hEW, hKn, hsh⟩ := X
  subst hp hv
  obtain ⟨cl, A, q1, S, q, H, G⟩ := F
  obtain ⟨T', h', Y', e', W', st'⟩ := RoadKit.stZ Y hx hZ eT A (inb_of S hj) (g := mkF m pc Ls (.int x :: .int j :: .ref a :: st)) rfl rfl (hb hby hd)
  exact Go.go st' (k T' h' ⟨k0, _, Y', Fr.snoc Y' N hn0, e', O.wr W' hn0, K.wr W' hws, hx, hby, hml, hret, hlk, hown, hnm, hZ, hS, by rw [W'.size]; exact hk, hC.trans (CHr.wr W' hsf hC.1), hEW, hKn, hsh⟩ ⟨_, _, W'⟩ (CHr.wr W' hsf hC.1) (Arv.set A q1 S q H G (fits_nar_bool _) W' i hi hil))
theorem o_stR {a : Addr} {ka : ClassId} {ty : FieldType} {n j : Int32} {v : Value} {i : Nat} {vs : List Value} {d : Value} (X : Here p l e R s m args below meth c Z bytes maxL ret own nm h0 n0 ws EL kn T h vm0 cells slots) (F : Arv Z h a ka ty n vs d) (hty : ty.isReference = true) (hSto : Sto Z h a v) (hfit : fits ty v = true) (hj : ¬ j < 0 ∧ j < n) (hi : j.toNatClampNeg = i) (hil : i < vs.length) (hd : decode bytes pc = .ok (.aastore, 1)) (hp : pc + 1 = pc') (hn0 : n0 ≤ a) (hws : a ∈ ws ∨ h0.size ≤ a) (hsf : Safe Z EL vm0 h a)
    (k : ∀ T' h', Here p l e R s m args below meth c Z bytes maxL ret own nm h0 n0 ws EL kn T' h' vm0 cells slots → (∃ sl w, Wr h h' a sl w) → CHr Z EL vm0 h vm0 h' → Arv Z h' a ka ty n (vs.set i v) d → Go p.tables e below P (T'.setTop (mkF m pc' Ls st))) : Go p.tables e below P (T.setTop (mkF m pc Ls (v :: .int j :: .ref a :: st))) := by
  obtain ⟨k0, locs, Y, N, eT, O, K, hx, hby, hml, hret, hlk, hown, hnm, hZ, hS, hk, hC, hEW, hKn, hsh⟩ := X
  subst hp
  obtain ⟨cl, A, q1, S, q, H, G⟩ := F
  obtain ⟨T', h', Y', e', W', st'⟩ := RoadKit.stR Y hx hZ eT A (inb_of S hj) hty hSto (g := mkF m pc Ls (v :: .int j :: .ref a :: st)) rfl rfl (hb hby hd)
  exact Go.go st' (k T' h' ⟨k0, _, Y', Fr.snoc Y' N hn0, e', O.wr W' hn0, K.wr W' hws, hx, hby, hml, hret, hlk, hown, hnm, hZ, hS, by rw [W'.size]; exact hk, hC.trans (CHr.wr W' hsf hC.1), hEW, hKn, hsh⟩ ⟨_, _, W'⟩ (CHr.wr W' hsf hC.1) (Arv.set A q1 S q H G hfit W' i hi hil))
theorem o_ldcI {index : Nat} {v : Int32} (X : Here p l e R s m args below meth c Z bytes maxL ret own nm h0 n0 ws EL kn T h vm0 cells slots) (w : (Cond.constant own index v).before a0 Z = true) (hd : decode bytes pc = .ok (.ldc index, 2)) (hp : pc + 2 = pc')
    (k : Go p.tables e below P (T.setTop (mkF m pc' Ls (.int v :: st)))) : Go p.tables e below P (T.setTop (mkF m pc Ls st)) := by
  obtain ⟨k0, locs, Y, N, eT, O, K, hx, hby, hml, hret, hlk, hown, hnm, hZ, hS, hk, hC, hEW, hKn, hsh⟩ := X
  subst hp
  exact Go.go (Y.ldcInt hx hown (mvT hZ w) (g := mkF m pc Ls st) rfl (hb hby hd)) k
theorem o_ldcL {index : Nat} {v : Int64} (X : Here p l e R s m args below meth c Z bytes maxL ret own nm h0 n0 ws EL kn T h vm0 cells slots) (w : (Cond.constantLong own index v).before a0 Z = true) (hd : decode bytes pc = .ok (.ldc2_w index, 3)) (hp : pc + 3 = pc')
    (k : Go p.tables e below P (T.setTop (mkF m pc' Ls (.long v :: st)))) : Go p.tables e below P (T.setTop (mkF m pc Ls st)) := by
  obtain ⟨k0, locs, Y, N, eT, O, K, hx, hby, hml, hret, hlk, hown, hnm, hZ, hS, hk, hC, hEW, hKn, hsh⟩ := X
  subst hp
  exact Go.go (Y.ldc2Long hx hown (mvT hZ w) (g := mkF m pc Ls st) rfl (hb hby hd)) k
theorem o_ret  {Po : Option Value → Heap → Vm → Prop} (X : Here p l e R s m args below meth c Z bytes maxL ret own nm h0 n0 ws EL kn T h vm0 cells slots) (hd : decode bytes pc = .ok (.return_, 1)) (hr0 : ret = none) (hc : cells ≤ R.cells) (hs : slots ≤ R.slots) (hQ : ∀ vm', CHr Z EL vm0 h vm' h → Po (none) h vm') : Go p.tables e below (PO s R h0 n0 ws Z EL Po) (T.setTop (mkF m pc Ls [])) := by
  obtain ⟨k0, locs, Y, N, eT, O, K, hx, hby, hml, hret, hlk, hown, hnm, hZ, hS, hk, hC, hEW, hKn, hsh⟩ := X
  obtain ⟨fs, hr, hrun, hended, hW, hsame⟩ := Y.leave (v := none) (fun _ => rfl) hlk
  have hE := hS.ended (U := T.setFrames fs) hW (by show k0 ≤ T.heap.size; rw [eT]; exact hk) (hsame.mono hc hs)
  obtain ⟨a1, hew⟩ := hEW
  have hC1 : CHr Z EL vm0 h T.vm h := CHv.at Y hZ hew hC.1
  have hC2 : CHr Z EL s.vm s.heap T.vm T.heap := by
    rw [hsh, eT]
    exact hC.trans hC1
  refine ⟨_, _, ?_, hrun, hended, _, _, rfl, ⟨N, ?_, ?_⟩, hC2, ⟨_, rfl⟩, hE.1, hE.2.1, hE.2.2⟩
  · exact Y.returnOut hx (hret.trans hr0) (hb hby hd) hr
  · show Keep h0 T.heap ws
    rw [eT]; exact K
  · show Po _ T.heap T.vm
    rw [eT]; exact hQ _ hC1
theorem o_iret {z : Int32} {Po : Option Value → Heap → Vm → Prop} (X : Here p l e R s m args below meth c Z bytes maxL ret own nm h0 n0 ws EL kn T h vm0 cells slots) (hd : decode bytes pc = .ok (.ireturn, 1)) (hr0 : ret = some .int) (hc : cells ≤ R.cells) (hs : slots ≤ R.slots) (hQ : ∀ vm', CHr Z EL vm0 h vm' h → Po (some (.int z)) h vm') : Go p.tables e below (PO s R h0 n0 ws Z EL Po) (T.setTop (mkF m pc Ls (.int z :: rest))) := by
  obtain ⟨k0, locs, Y, N, eT, O, K, hx, hby, hml, hret, hlk, hown, hnm, hZ, hS, hk, hC, hEW, hKn, hsh⟩ := X
  obtain ⟨fs, hr, hrun, hended, hW, hsame⟩ := Y.leave (v := some (.int z)) (fun h => by rw [hret, hr0] at h; cases h) hlk
  have hE := hS.ended (U := T.setFrames fs) hW (by show k0 ≤ T.heap.size; rw [eT]; exact hk) (hsame.mono hc hs)
  obtain ⟨a1, hew⟩ := hEW
  have hC1 : CHr Z EL vm0 h T.vm h := CHv.at Y hZ hew hC.1
  have hC2 : CHr Z EL s.vm s.heap T.vm T.heap := by
    rw [hsh, eT]
    exact hC.trans hC1
  refine ⟨_, _, ?_, hrun, hended, _, _, rfl, ⟨N, ?_, ?_⟩, hC2, ⟨_, rfl⟩, hE.1, hE.2.1, hE.2.2⟩
  · exact retOut Y hx (hret.trans hr0) rfl (Or.inl ⟨rfl, Or.inl rfl, _, rfl⟩) (hb hby hd) hr
  · show Keep h0 T.heap ws
    rw [eT]; exact K
  · show Po _ T.heap T.vm
    rw [eT]; exact hQ _ hC1
theorem o_nret {z y : Int32} {t : FieldType} {Po : Option Value → Heap → Vm → Prop} (X : Here p l e R s m args below meth c Z bytes maxL ret own nm h0 n0 ws EL kn T h vm0 cells slots) (hd : decode bytes pc = .ok (.ireturn, 1)) (hr0 : ret = some t) (hv : nar t z = y) (ht : t = .boolean ∨ t = .byte ∨ t = .char ∨ t = .short) (hc : cells ≤ R.cells) (hs : slots ≤ R.slots) (hQ : ∀ vm', CHr Z EL vm0 h vm' h → Po (some (.int y)) h vm') : Go p.tables e below (PO s R h0 n0 ws Z EL Po) (T.setTop (mkF m pc Ls (.int z :: rest))) := by
  obtain ⟨k0, locs, Y, N, eT, O, K, hx, hby, hml, hret, hlk, hown, hnm, hZ, hS, hk, hC, hEW, hKn, hsh⟩ := X
  obtain ⟨fs, hr, hrun, hended, hW, hsame⟩ := Y.leave (v := some (.int y)) (fun h => by rw [hret, hr0] at h; cases h) hlk
  have hE := hS.ended (U := T.setFrames fs) hW (by show k0 ≤ T.heap.size; rw [eT]; exact hk) (hsame.mono hc hs)
  obtain ⟨a1, hew⟩ := hEW
  have hC1 : CHr Z EL vm0 h T.vm h := CHv.at Y hZ hew hC.1
  have hC2 : CHr Z EL s.vm s.heap T.vm T.heap := by
    rw [hsh, eT]
    exact hC.trans hC1
  refine ⟨_, _, ?_, hrun, hended, _, _, rfl, ⟨N, ?_, ?_⟩, hC2, ⟨_, rfl⟩, hE.1, hE.2.1, hE.2.2⟩
  · subst hv; exact retN Y hx (hret.trans hr0) ht (hb hby hd) hr
  · show Keep h0 T.heap ws
    rw [eT]; exact K
  · show Po _ T.heap T.vm
    rw [eT]; exact hQ _ hC1
theorem o_lret {z : Int64} {Po : Option Value → Heap → Vm → Prop} (X : Here p l e R s m args below meth c Z bytes maxL ret own nm h0 n0 ws EL kn T h vm0 cells slots) (hd : decode bytes pc = .ok (.lreturn, 1)) (hr0 : ret = some .long) (hc : cells ≤ R.cells) (hs : slots ≤ R.slots) (hQ : ∀ vm', CHr Z EL vm0 h vm' h → Po (some (.long z)) h vm') : Go p.tables e below (PO s R h0 n0 ws Z EL Po) (T.setTop (mkF m pc Ls (.long z :: rest))) := by
  obtain ⟨k0, locs, Y, N, eT, O, K, hx, hby, hml, hret, hlk, hown, hnm, hZ, hS, hk, hC, hEW, hKn, hsh⟩ := X
  obtain ⟨fs, hr, hrun, hended, hW, hsame⟩ := Y.leave (v := some (.long z)) (fun h => by rw [hret, hr0] at h; cases h) hlk
  have hE := hS.ended (U := T.setFrames fs) hW (by show k0 ≤ T.heap.size; rw [eT]; exact hk) (hsame.mono hc hs)
  obtain ⟨a1, hew⟩ := hEW
  have hC1 : CHr Z EL vm0 h T.vm h := CHv.at Y hZ hew hC.1
  have hC2 : CHr Z EL s.vm s.heap T.vm T.heap := by
    rw [hsh, eT]
    exact hC.trans hC1
  refine ⟨_, _, ?_, hrun, hended, _, _, rfl, ⟨N, ?_, ?_⟩, hC2, ⟨_, rfl⟩, hE.1, hE.2.1, hE.2.2⟩
  · exact retOut Y hx (hret.trans hr0) rfl (Or.inr (Or.inl ⟨rfl, rfl, _, rfl⟩)) (hb hby hd) hr
  · show Keep h0 T.heap ws
    rw [eT]; exact K
  · show Po _ T.heap T.vm
    rw [eT]; exact hQ _ hC1
theorem o_aret {w : Value} {t : FieldType} {Po : Option Value → Heap → Vm → Prop} (X : Here p l e R s m args below meth c Z bytes maxL ret own nm h0 n0 ws EL kn T h vm0 cells slots) (hd : decode bytes pc = .ok (.areturn, 1)) (hr0 : ret = some t) (ht : t.isReference = true) (hw : w.isRef = true) (hc : cells ≤ R.cells) (hs : slots ≤ R.slots) (hQ : ∀ vm', CHr Z EL vm0 h vm' h → Po (some w) h vm') : Go p.tables e below (PO s R h0 n0 ws Z EL Po) (T.setTop (mkF m pc Ls (w :: rest))) := by
  obtain ⟨k0, locs, Y, N, eT, O, K, hx, hby, hml, hret, hlk, hown, hnm, hZ, hS, hk, hC, hEW, hKn, hsh⟩ := X
  obtain ⟨fs, hr, hrun, hended, hW, hsame⟩ := Y.leave (v := some w) (fun h => by rw [hret, hr0] at h; cases h) hlk
  have hE := hS.ended (U := T.setFrames fs) hW (by show k0 ≤ T.heap.size; rw [eT]; exact hk) (hsame.mono hc hs)
  obtain ⟨a1, hew⟩ := hEW
  have hC1 : CHr Z EL vm0 h T.vm h := CHv.at Y hZ hew hC.1
  have hC2 : CHr Z EL s.vm s.heap T.vm T.heap := by
    rw [hsh, eT]
    exact hC.trans hC1
  refine ⟨_, _, ?_, hrun, hended, _, _, rfl, ⟨N, ?_, ?_⟩, hC2, ⟨_, rfl⟩, hE.1, hE.2.1, hE.2.2⟩
  · exact retOut Y hx (hret.trans hr0) (by rcases ref_cases hw with rfl | ⟨a, rfl⟩ <;> cases t <;> first | rfl | cases ht) (Or.inr (Or.inr (Or.inr (Or.inr ⟨rfl, ht, hw⟩)))) (hb hby hd) hr
  · show Keep h0 T.heap ws
    rw [eT]; exact K
  · show Po _ T.heap T.vm
    rw [eT]; exact hQ _ hC1
theorem o_static {index : Nat} {y : MethodName} {bytes' : ByteArray} {maxL' : Nat} {ret' : Option FieldType} {W kc ks : Nat} {Q : Option Value → Heap → Vm → List Loc → Prop} {ws' : List Addr} {argsL : List Value} (X : Here p l e R s m args below meth c Z bytes maxL ret own nm h0 n0 ws EL kn T h vm0 cells slots) (w1 : (Cond.methodLink own index y).before a0 Z = true) (w2 : (Cond.static y).before a0 Z = true) (w3 : (Cond.initialized y.cls).before a0 Z = true) (w4 : (Cond.code y bytes' maxL' ret').before a0 Z = true) (hy : y.cls ≠ "java/lang/invoke/MethodHandle" ∧ y.cls ≠ "java/lang/invoke/VarHandle") (hlen : ∀ sig, parseMethodDescriptor y.desc = some sig → argsL.length = sig.parameters.length) (hK : BackS l R p e below (s.setVm vm0) args y 3 W (fun A a => a = argsL.toArray ∧ A.U.heap = h ∧ A.cells + kc ≤ R.cells ∧ A.slots + ks ≤ R.slots) (fun A _ v B => ∃ L, Q v B.U.heap B.U.vm L ∧ B.locs = A.locs ++ L ∧ B.cells = A.cells + kc ∧ B.slots = A.slots + ks ∧ CHr Z EL vm0 h B.U.vm B.U.heap)) (hd : decode bytes pc = .ok (.invokestatic index, 3)) (hp : pc + 3 = pc') (hsz : Ls.size = maxL) (hstk : st = argsL.reverse ++ rest) (hW : (rest.map fun v => v.category).sum ≤ W) (hc : cells + kc ≤ R.cells) (hs : slots + ks ≤ R.slots) (hQ : ∀ v h' vm' L, Q v h' vm' L → Fr n0 L ∧ Keep h h' ws') (hws : ∀ x ∈ ws', n0 ≤ x ∧ (x ∈ ws ∨ h0.size ≤ x))
    (k : ∀ v T' h' L vm', Here p l e R s m args below meth c Z bytes maxL ret own nm h0 n0 ws EL kn T' h' vm' (cells + kc) (slots + ks) → Q v h' vm' L → Keep h h' ws' → CHr Z EL vm0 h vm' h' → Go p.tables e below P (T'.setTop (mkF m pc' Ls (v.toList ++ rest)))) : Go p.tables e below P (T.setTop (mkF m pc Ls st)) := by
  obtain ⟨k0, locs, Y, N, eT, O, K, hx, hby, hml, hret, hlk, hown, hnm, hZ, hS, hk, hC, hEW, hKn, hsh⟩ := X
  subst hp hstk
  obtain ⟨v, vm₁, ⟨T', L', k', n'⟩, -, X', hS', hg', ⟨L, hq, l', y', z', hC'⟩, st'⟩ := RoadKit.callSS Y hx hown (mvT hZ w1) (mvT hZ w2) (mvT hZ w3) (mvT hZ w4) hy hK (g := mkF m pc Ls (argsL.reverse ++ rest)) rfl (by rw [hml]; exact hsz) (argsL := argsL) (rest := rest) hlen rfl (by show 2 * 0 + _ ≤ _; omega) (hb hby hd) (fun _ _ => ⟨rfl, eT, hc, hs⟩)
  dsimp only [Pt.U, Pt.locs, Pt.cells, Pt.slots] at X' hS' hg' l' y' z' st' hq hC'
  subst l' y' z'
  obtain ⟨f1, f2⟩ := hQ _ _ _ _ hq
  have hZ' : Z.Warmed39 T'.vm := State.Warmed39.trans (t := s.setVm vm0) hZ hS'.1
  have hown' : T'.vm.findClass own = some m.cls := by
    have q := hS'.1.alike.findClass (name := own)
    exact (q _).trans hown
  exact Go.go (fun t q => st'.trans q) (k v T' _ L T'.vm ⟨T'.heap.size, _, X', N.app f1, rfl, O.keep f2 (fun x hx => (hws x hx).1), K.trans f2 (fun x hx => (hws x hx).2), hx, hby, hml, hret, hlk, hown', hnm, hZ', hS.trans hS' (Nat.le_trans hk (by rw [← eT]; exact hg')), Nat.le_refl _, hC.trans hC', hEW, KnP.alike hKn hS'.1.alike, hsh⟩ hq f2 hC')
theorem o_special {index : Nat} {y : MethodName} {bytes' : ByteArray} {maxL' : Nat} {b : Addr} {W kc ks : Nat} {Q : Option Value → Heap → Vm → List Loc → Prop} {ws' : List Addr} {argsL : List Value} (X : Here p l e R s m args below meth c Z bytes maxL ret own nm h0 n0 ws EL kn T h vm0 cells slots) (hy1 : y.name = "<init>") (w1 : (Cond.methodLink own index y).before a0 Z = true) (w2 : (Cond.instanceMethod y).before a0 Z = true) (w4 : (Cond.code y bytes' maxL' none).before a0 Z = true) (hy : y.cls ≠ "java/lang/invoke/MethodHandle" ∧ y.cls ≠ "java/lang/invoke/VarHandle") (hlen : ∀ sig, parseMethodDescriptor y.desc = some sig → argsL.length = sig.parameters.length) (hK : BackS l R p e below (s.setVm vm0) args y 3 W (fun A a => a = (.ref b :: argsL).toArray ∧ A.U.heap = h ∧ A.cells + kc ≤ R.cells ∧ A.slots + ks ≤ R.slots) (fun A _ v B => ∃ L, Q v B.U.heap B.U.vm L ∧ B.locs = A.locs ++ L ∧ B.cells = A.cells + kc ∧ B.slots = A.slots + ks ∧ CHr Z EL vm0 h B.U.vm B.U.heap)) (hd : decode bytes pc = .ok (.invokespecial index, 3)) (hp : pc + 3 = pc') (hsz : Ls.size = maxL) (hstk : st = argsL.reverse ++ .ref b :: rest) (hW : (rest.map fun v => v.category).sum ≤ W) (hc : cells + kc ≤ R.cells) (hs : slots + ks ≤ R.slots) (hQ : ∀ v h' vm' L, Q v h' vm' L → Fr n0 L ∧ Keep h h' ws') (hws : ∀ x ∈ ws', n0 ≤ x ∧ (x ∈ ws ∨ h0.size ≤ x))
    (k : ∀ v T' h' L vm', Here p l e R s m args below meth c Z bytes maxL ret own nm h0 n0 ws EL kn T' h' vm' (cells + kc) (slots + ks) → Q v h' vm' L → Keep h h' ws' → CHr Z EL vm0 h vm' h' → Go p.tables e below P (T'.setTop (mkF m pc' Ls (v.toList ++ rest)))) : Go p.tables e below P (T.setTop (mkF m pc Ls st)) := by
  obtain ⟨k0, locs, Y, N, eT, O, K, hx, hby, hml, hret, hlk, hown, hnm, hZ, hS, hk, hC, hEW, hKn, hsh⟩ := X
  subst hp hstk
  obtain ⟨v, vm₁, ⟨T', L', k', n'⟩, -, X', hS', hg', ⟨L, hq, l', y', z', hC'⟩, st'⟩ := Y.specialBackS hx hy1 hown (mvT hZ w1) (mvT hZ w2) (mvT hZ w4) hy hK (g := mkF m pc Ls (argsL.reverse ++ .ref b :: rest)) rfl (by rw [hml]; exact hsz) (Steps.refl _) (a := b) (argsL := argsL) (rest := rest) hlen rfl (by show 2 * 0 + _ ≤ _; omega) (hb hby hd) (fun _ _ => ⟨rfl, eT, hc, hs⟩)
  dsimp only [Pt.U, Pt.locs, Pt.cells, Pt.slots] at X' hS' hg' l' y' z' st' hq hC'
  subst l' y' z'
  obtain ⟨f1, f2⟩ := hQ _ _ _ _ hq
  have hZ' : Z.Warmed39 T'.vm := State.Warmed39.trans (t := s.setVm vm0) hZ hS'.1
  have hown' : T'.vm.findClass own = some m.cls := by
    have q := hS'.1.alike.findClass (name := own)
    exact (q _).trans hown
  exact Go.go (fun t q => st'.trans q) (k v T' _ L T'.vm ⟨T'.heap.size, _, X', N.app f1, rfl, O.keep f2 (fun x hx => (hws x hx).1), K.trans f2 (fun x hx => (hws x hx).2), hx, hby, hml, hret, hlk, hown', hnm, hZ', hS.trans hS' (Nat.le_trans hk (by rw [← eT]; exact hg')), Nat.le_refl _, hC.trans hC', hEW, KnP.alike hKn hS'.1.alike, hsh⟩ hq f2 hC')
theorem o_virtual {index : Nat} {C : String} {y z : MethodName} {b : Addr} {W kc ks : Nat} {Q : Option Value → Heap → Vm → List Loc → Prop} {ws' : List Addr} {argsL : List Value} (X : Here p l e R s m args below meth c Z bytes maxL ret own nm h0 n0 ws EL kn T h vm0 cells slots) (E : Exa Z h b C) (w1 : (Cond.methodLink own index y).before a0 Z = true) (w2 : (Cond.declares y).before a0 Z = true) (w3 : (Cond.selects C y z).before a0 Z = true) (w4 : (Cond.instanceMethod z).before a0 Z = true) (nf : ∀ s' : State, Z.Warmed39 s'.vm → NotFace s' y) (hy : y.cls ≠ "java/lang/invoke/MethodHandle" ∧ y.cls ≠ "java/lang/invoke/VarHandle") (hlen : ∀ sig, parseMethodDescriptor y.desc = some sig → argsL.length = sig.parameters.length) (hK : BackS l R p e below (s.setVm vm0) args z 3 W (fun A a => a = (.ref b :: argsL).toArray ∧ A.U.heap = h ∧ A.cells + kc ≤ R.cells ∧ A.slots + ks ≤ R.slots) (fun A _ v B => ∃ L, Q v B.U.heap B.U.vm L ∧ B.locs = A.locs ++ L ∧ B.cells = A.cells + kc ∧ B.slots = A.slots + ks ∧ CHr Z EL vm0 h B.U.vm B.U.heap)) (hd : decode bytes pc = .ok (.invokevirtual index, 3)) (hp : pc + 3 = pc') (hsz : Ls.size = maxL) (hstk : st = argsL.reverse ++ .ref b :: rest) (hW : (rest.map fun v => v.category).sum ≤ W) (hc : cells + kc ≤ R.cells) (hs : slots + ks ≤ R.slots) (hQ : ∀ v h' vm' L, Q v h' vm' L → Fr n0 L ∧ Keep h h' ws') (hws : ∀ x ∈ ws', n0 ≤ x ∧ (x ∈ ws ∨ h0.size ≤ x))
    (k : ∀ v T' h' L vm', Here p l e R s m args below meth c Z bytes maxL ret own nm h0 n0 ws EL kn T' h' vm' (cells + kc) (slots + ks) → Q v h' vm' L → Keep h h' ws' → CHr Z EL vm0 h vm' h' → Go p.tables e below P (T'.setTop (mkF m pc' Ls (v.toList ++ rest)))) : Go p.tables e below P (T.setTop (mkF m pc Ls st)) := by
  obtain ⟨k0, locs, Y, N, eT, O, K, hx, hby, hml, hret, hlk, hown, hnm, hZ, hS, hk, hC, hEW, hKn, hsh⟩ := X
  obtain ⟨cq, kq, qa, qb, qc⟩ := isOf (s := s.setVm vm0) hZ eT E
  subst hp hstk
  obtain ⟨v, vm₁, ⟨T', L', k', n'⟩, -, X', hS', hg', ⟨L, hq, l', y', z', hC'⟩, st'⟩ := (Y.virtualBackS hx (y := y) (z := z) hown (mvT hZ w1) (mvT hZ w2) (nf _ hZ) (mvT hZ w3) (mvT hZ w4) hy hK qa qc (g := mkF m pc Ls (argsL.reverse ++ .ref b :: rest)) rfl (by rw [hml]; exact hsz) (Steps.refl _) (argsL := argsL) (rest := rest) hlen rfl (by show 2 * 0 + _ ≤ _; omega) (hb hby hd) (fun _ _ => ⟨rfl, eT, hc, hs⟩))
  dsimp only [Pt.U, Pt.locs, Pt.cells, Pt.slots] at X' hS' hg' l' y' z' st' hq hC'
  subst l' y' z'
  obtain ⟨f1, f2⟩ := hQ _ _ _ _ hq
  have hZ' : Z.Warmed39 T'.vm := State.Warmed39.trans (t := s.setVm vm0) hZ hS'.1
  have hown' : T'.vm.findClass own = some m.cls := by
    have q := hS'.1.alike.findClass (name := own)
    exact (q _).trans hown
  exact Go.go (fun t q => st'.trans q) (k v T' _ L T'.vm ⟨T'.heap.size, _, X', N.app f1, rfl, O.keep f2 (fun x hx => (hws x hx).1), K.trans f2 (fun x hx => (hws x hx).2), hx, hby, hml, hret, hlk, hown', hnm, hZ', hS.trans hS' (Nat.le_trans hk (by rw [← eT]; exact hg')), Nat.le_refl _, hC.trans hC', hEW, KnP.alike hKn hS'.1.alike, hsh⟩ hq f2 hC')
theorem o_iface {index count : Nat} {C : String} {y z : MethodName} {b : Addr} {W kc ks : Nat} {Q : Option Value → Heap → Vm → List Loc → Prop} {ws' : List Addr} {argsL : List Value} (X : Here p l e R s m args below meth c Z bytes maxL ret own nm h0 n0 ws EL kn T h vm0 cells slots) (E : Exa Z h b C) (w1 : (Cond.methodLink own index y).before a0 Z = true) (w2 : (Cond.declares y).before a0 Z = true) (w3 : (Cond.interfaceMethod y.cls y.cls y.name y.desc).before a0 Z = true) (w4 : (Cond.selects C y z).before a0 Z = true) (w5 : (Cond.instanceMethod z).before a0 Z = true) (w6 : (Cond.publicMethod z).before a0 Z = true) (w7 : (Cond.unhidden C y.name y.desc).before a0 Z = true) (w8 : (Cond.castable C y.cls).before a0 Z = true) (hd3 : ((Cond.interfaceMethod y.cls y.cls y.name y.desc).onTables && (Cond.interfaceMethod y.cls y.cls y.name y.desc).keepsFace) = true) (hy : y.cls ≠ "java/lang/invoke/MethodHandle" ∧ y.cls ≠ "java/lang/invoke/VarHandle") (hlen : ∀ sig, parseMethodDescriptor y.desc = some sig → argsL.length = sig.parameters.length) (hK : BackS l R p e below (s.setVm vm0) args z 5 W (fun A a => a = (.ref b :: argsL).toArray ∧ A.U.heap = h ∧ A.cells + kc ≤ R.cells ∧ A.slots + ks ≤ R.slots) (fun A _ v B => ∃ L, Q v B.U.heap B.U.vm L ∧ B.locs = A.locs ++ L ∧ B.cells = A.cells + kc ∧ B.slots = A.slots + ks ∧ CHr Z EL vm0 h B.U.vm B.U.heap)) (hd : decode bytes pc = .ok (.invokeinterface index count, 5)) (hp : pc + 5 = pc') (hsz : Ls.size = maxL) (hstk : st = argsL.reverse ++ .ref b :: rest) (hW : (rest.map fun v => v.category).sum ≤ W) (hc : cells + kc ≤ R.cells) (hs : slots + ks ≤ R.slots) (hQ : ∀ v h' vm' L, Q v h' vm' L → Fr n0 L ∧ Keep h h' ws') (hws : ∀ x ∈ ws', n0 ≤ x ∧ (x ∈ ws ∨ h0.size ≤ x))
    (k : ∀ v T' h' L vm', Here p l e R s m args below meth c Z bytes maxL ret own nm h0 n0 ws EL kn T' h' vm' (cells + kc) (slots + ks) → Q v h' vm' L → Keep h h' ws' → CHr Z EL vm0 h vm' h' → Go p.tables e below P (T'.setTop (mkF m pc' Ls (v.toList ++ rest)))) : Go p.tables e below P (T.setTop (mkF m pc Ls st)) := by
  obtain ⟨k0, locs, Y, N, eT, O, K, hx, hby, hml, hret, hlk, hown, hnm, hZ, hS, hk, hC, hEW, hKn, hsh⟩ := X
  obtain ⟨cq, kq, qa, qb, qc⟩ := isOf (s := s.setVm vm0) hZ eT E
  subst hp hstk
  obtain ⟨v, vm₁, ⟨T', L', k', n'⟩, -, X', hS', hg', ⟨L, hq, l', y', z', hC'⟩, st'⟩ := (Y.interfaceBackS hx (xi := y) (y := z) hown (mvT hZ w1) (mvT hZ w2) (mvT hZ w3 hd3) (mvT hZ w4) (mvT hZ w5) (mvT hZ w6) (mvT hZ w7) (mvT hZ w8) hy hK qa qb qc (g := mkF m pc Ls (argsL.reverse ++ .ref b :: rest)) rfl (by rw [hml]; exact hsz) (Steps.refl _) (argsL := argsL) (rest := rest) hlen rfl (by show 2 * 0 + _ ≤ _; omega) (hb hby hd) (fun _ _ => ⟨rfl, eT, hc, hs⟩))
  dsimp only [Pt.U, Pt.locs, Pt.cells, Pt.slots] at X' hS' hg' l' y' z' st' hq hC'
  subst l' y' z'
  obtain ⟨f1, f2⟩ := hQ _ _ _ _ hq
  have hZ' : Z.Warmed39 T'.vm := State.Warmed39.trans (t := s.setVm vm0) hZ hS'.1
  have hown' : T'.vm.findClass own = some m.cls := by
    have q := hS'.1.alike.findClass (name := own)
    exact (q _).trans hown
  exact Go.go (fun t q => st'.trans q) (k v T' _ L T'.vm ⟨T'.heap.size, _, X', N.app f1, rfl, O.keep f2 (fun x hx => (hws x hx).1), K.trans f2 (fun x hx => (hws x hx).2), hx, hby, hml, hret, hlk, hown', hnm, hZ', hS.trans hS' (Nat.le_trans hk (by rw [← eT]; exact hg')), Nat.le_refl _, hC.trans hC', hEW, KnP.alike hKn hS'.1.alike, hsh⟩ hq f2 hC')
theorem o_virtualUp {index : Nat} {C owner : String} {y z : MethodName} {b : Addr} {W kc ks : Nat} {Q : Option Value → Heap → Vm → List Loc → Prop} {ws' : List Addr} {argsL : List Value} (X : Here p l e R s m args below meth c Z bytes maxL ret own nm h0 n0 ws EL kn T h vm0 cells slots) (E : Exa Z h b C) (w1 : (Cond.methodLink own index y).before a0 Z = true) (w2 : (Cond.sameMethod y.cls owner y.name y.desc).before a0 Z = true) (w5 : (Cond.declares ⟨owner, y.name, y.desc⟩).before a0 Z = true) (w3 : (Cond.selects C y z).before a0 Z = true) (w4 : (Cond.instanceMethod z).before a0 Z = true) (hy : owner ≠ "java/lang/invoke/MethodHandle" ∧ owner ≠ "java/lang/invoke/VarHandle") (hlen : ∀ sig, parseMethodDescriptor y.desc = some sig → argsL.length = sig.parameters.length) (hK : BackS l R p e below (s.setVm vm0) args z 3 W (fun A a => a = (.ref b :: argsL).toArray ∧ A.U.heap = h ∧ A.cells + kc ≤ R.cells ∧ A.slots + ks ≤ R.slots) (fun A _ v B => ∃ L, Q v B.U.heap B.U.vm L ∧ B.locs = A.locs ++ L ∧ B.cells = A.cells + kc ∧ B.slots = A.slots + ks ∧ CHr Z EL vm0 h B.U.vm B.U.heap)) (hd : decode bytes pc = .ok (.invokevirtual index, 3)) (hp : pc + 3 = pc') (hsz : Ls.size = maxL) (hstk : st = argsL.reverse ++ .ref b :: rest) (hW : (rest.map fun v => v.category).sum ≤ W) (hc : cells + kc ≤ R.cells) (hs : slots + ks ≤ R.slots) (hQ : ∀ v h' vm' L, Q v h' vm' L → Fr n0 L ∧ Keep h h' ws') (hws : ∀ x ∈ ws', n0 ≤ x ∧ (x ∈ ws ∨ h0.size ≤ x))
    (k : ∀ v T' h' L vm', Here p l e R s m args below meth c Z bytes maxL ret own nm h0 n0 ws EL kn T' h' vm' (cells + kc) (slots + ks) → Q v h' vm' L → Keep h h' ws' → CHr Z EL vm0 h vm' h' → Go p.tables e below P (T'.setTop (mkF m pc' Ls (v.toList ++ rest)))) : Go p.tables e below P (T.setTop (mkF m pc Ls st)) := by
  obtain ⟨k0, locs, Y, N, eT, O, K, hx, hby, hml, hret, hlk, hown, hnm, hZ, hS, hk, hC, hEW, hKn, hsh⟩ := X
  obtain ⟨cq, kq, qa, qb, qc⟩ := isOf (s := s.setVm vm0) hZ eT E
  subst hp hstk
  obtain ⟨v, vm₁, ⟨T', L', k', n'⟩, -, X', hS', hg', ⟨L, hq, l', y', z', hC'⟩, st'⟩ := (Y.virtualBackUpS hx (x := y) (y := z) hown (mvT hZ w1) (mvT hZ w2) (mvT hZ w5) hy (mvT hZ w3) (mvT hZ w4) hK qa qc (g := mkF m pc Ls (argsL.reverse ++ .ref b :: rest)) rfl (by rw [hml]; exact hsz) (Steps.refl _) (argsL := argsL) (rest := rest) hlen rfl (by show 2 * 0 + _ ≤ _; omega) (hb hby hd) (fun _ _ => ⟨rfl, eT, hc, hs⟩))
  dsimp only [Pt.U, Pt.locs, Pt.cells, Pt.slots] at X' hS' hg' l' y' z' st' hq hC'
  subst l' y' z'
  obtain ⟨f1, f2⟩ := hQ _ _ _ _ hq
  have hZ' : Z.Warmed39 T'.vm := State.Warmed39.trans (t := s.setVm vm0) hZ hS'.1
  have hown' : T'.vm.findClass own = some m.cls := by
    have q := hS'.1.alike.findClass (name := own)
    exact (q _).trans hown
  exact Go.go (fun t q => st'.trans q) (k v T' _ L T'.vm ⟨T'.heap.size, _, X', N.app f1, rfl, O.keep f2 (fun x hx => (hws x hx).1), K.trans f2 (fun x hx => (hws x hx).2), hx, hby, hml, hret, hlk, hown', hnm, hZ', hS.trans hS' (Nat.le_trans hk (by rw [← eT]; exact hg')), Nat.le_refl _, hC.trans hC', hEW, KnP.alike hKn hS'.1.alike, hsh⟩ hq f2 hC')
theorem o_ldcO {index : Nat} {text : String} {n : Nat} (X : Here p l e R s m args below meth c Z bytes maxL ret own nm h0 n0 ws EL kn T h vm0 cells slots) (w : (Cond.stringLink own index text).before a0 Z = true) (wS : ∀ a ∈ Bundle.stringAtoms, a.before a0 Z = true) (hd : decode bytes pc = .ok (.ldc index, 2)) (hp : pc + 2 = pc') (hn : 4 * text.toList.length ≤ n) (hbig : n ≤ 536870912) (hc : cells + 2 ≤ R.cells) (hl : slots + (n + 4) ≤ R.slots)
    (k : ∀ a T' h' vm', Here p l e R s m args below meth c Z bytes maxL ret own nm h0 n0 ws EL kn T' h' vm' (cells + 2) (slots + (n + 4)) → Ext h h' → CHr Z EL vm0 h vm' h' → Go p.tables e below P (T'.setTop (mkF m pc' Ls (.ref a :: st)))) : Go p.tables e below P (T.setTop (mkF m pc Ls st)) := by
  obtain ⟨k0, locs, Y, N, eT, O, K, hx, hby, hml, hret, hlk, hown, hnm, hZ, hS, hk, hC, ⟨a1, hEW⟩, hKn, hsh⟩ := X
  subst hp
  obtain ⟨a, T', h', k1, Y', e', E', hS', hk', hZ', hown', hC', -, st'⟩ := ldcOH Y hx hZ hown w wS eT hS hk hEW hC.1 (g := mkF m pc Ls st) rfl (hb hby hd) hn hbig hc hl
  have hal : vm0.Alike T'.vm := hZ.alike.symm.trans hZ'.alike
  exact Go.go st' (k a T' h' T'.vm ⟨k1, locs, Y', N, e', O.ext E', K.ext E', hx, hby, hml, hret, hlk, hown', hnm, hZ', hS', hk', hC.trans hC', ⟨a1, hEW⟩, KnP.alike hKn hal, hsh⟩ E' hC')
theorem o_ldcC {index : Nat} {text : String} {n : Nat} {vs : List Value} {z : Int32} (X : Here p l e R s m args below meth c Z bytes maxL ret own nm h0 n0 ws EL kn T h vm0 cells slots) (w : (Cond.stringLink own index text).before a0 Z = true) (wS : ∀ a ∈ Bundle.stringAtoms, a.before a0 Z = true) (hmem : (own, index) ∈ EL) (ht : (∀ c ∈ text.toList, c.toNat < 256) ∧ text.toList.map (fun c => Value.int (Jvm.Lit.byteI c.toNat.toUInt16)) = vs) (hz : ¬ z < 0) (hlz : z.toNatClampNeg = vs.length) (hd : decode bytes pc = .ok (.ldc index, 2)) (hp : pc + 2 = pc') (hn : 4 * text.toList.length ≤ n) (hbig : n ≤ 536870912) (hc : cells + 2 ≤ R.cells) (hl : slots + (n + 4) ≤ R.slots)
    (k : ∀ a b kb T' h' vm', Here p l e R s m args below meth c Z bytes maxL ret own nm h0 n0 ws EL kn T' h' vm' (cells + 2) (slots + (n + 4)) → Ext h h' → CHr Z EL vm0 h vm' h' → Exa Z h' a "java/lang/String" → Fld Z h' a "java/lang/String" "coder" "B" (.int 0) → Fld Z h' a "java/lang/String" "value" "[B" (.ref b) → Arv Z h' b kb .byte z vs (.int 0) → (∀ x, Safe Z EL vm' h' x → x ≠ a ∧ x ≠ b) → Go p.tables e below P (T'.setTop (mkF m pc' Ls (.ref a :: st)))) : Go p.tables e below P (T.setTop (mkF m pc Ls st)) := by
  obtain ⟨k0, locs, Y, N, eT, O, K, hx, hby, hml, hret, hlk, hown, hnm, hZ, hS, hk, hC, ⟨a1, hEW⟩, hKn, hsh⟩ := X
  subst hp
  obtain ⟨a, T', h', k1, b, kb, Y', e', E', hS', hk', hZ', hown', q1, q2, q3, q4, -, -, hC', -, q5, st'⟩ := ldcCH Y hx hZ hown w wS eT hS hk hEW hmem hC.1 ht hz hlz (g := mkF m pc Ls st) rfl (hb hby hd) hn hbig hc hl
  have hal : vm0.Alike T'.vm := hZ.alike.symm.trans hZ'.alike
  exact Go.go st' (k a b kb T' h' T'.vm ⟨k1, locs, Y', N, e', O.ext E', K.ext E', hx, hby, hml, hret, hlk, hown', hnm, hZ', hS', hk', hC.trans hC', ⟨a1, hEW⟩, KnP.alike hKn hal, hsh⟩ E' hC' q1 q2 q3 q4 q5)
theorem o_exc1 {rc : String} {links : List Jvm.Free.Exc.Link} {ic nn : Nat} {a : Addr} {msg : Value} (X : Here p l e R s m args below meth c Z bytes maxL ret own nm h0 n0 ws EL true T h vm0 cells slots) (hl : l.stackTraces = true) (hok : Jvm.Free.Exc.linksOk 1 links = true) (w1 : (Cond.methodLink own ic (Jvm.Free.Exc.ctor 1 (Jvm.Free.Exc.headName links))).before a0 Z = true) (w2 : (Cond.instanceMethod (Jvm.Free.Exc.ctor 1 (Jvm.Free.Exc.headName links))).before a0 Z = true) (wT : (Jvm.Free.Exc.chainTab 1 rc links).before a0 Z = true) (wi : (Cond.instantiable rc nn).before a0 Z = true) (r : ∀ d ∈ twoRefs, d.before a0 Z = true) (O0 : Old Z n0 h0)
    (E : Exa Z h a rc) (N0 : Unt h a) (B : Fld Z h a "java/lang/Throwable" "backtrace" "Ljava/lang/Object;" .null) (B2 : Fld Z h a "java/lang/Throwable" "detailMessage" "Ljava/lang/String;" .null) (hmsg : msg.isRef = true) (hd : decode bytes pc = .ok (.invokespecial ic, 3)) (hp : pc + 3 = pc') (hsz : Ls.size = maxL) (hf : 4 + links.length ≤ R.frames) (hlo : (st.map fun v => v.category).sum + (56 + 14 * links.length) ≤ R.locals) (hc : cells + 1 ≤ R.cells) (hsl : slots + 2752 ≤ R.slots) (hn0 : n0 ≤ a) (hws : a ∈ ws ∨ h0.size ≤ a) (hsf : Safe Z EL vm0 h a)
    (k : ∀ T' h', Here p l e R s m args below meth c Z bytes maxL ret own nm h0 n0 ws EL true T' h' vm0 (cells + 1) (slots + 2752) → Kp Z h h' a → CHr Z EL vm0 h vm0 h' → Exa Z h' a rc → Unt h' a → Fld Z h' a "java/lang/Throwable" "detailMessage" "Ljava/lang/String;" msg → Go p.tables e below P (T'.setTop (mkF m pc' Ls st))) : Go p.tables e below P (T.setTop (mkF m pc Ls (msg :: .ref a :: st))) := by
  obtain ⟨k0, locs, Y, N, eT, O, K, hx, hby, hml, hret, hlk, hown, hnm, hZ, hS, hk, hC, hEW, hKn, hsh⟩ := X
  subst hp
  obtain ⟨T', h', Y', e', Kp', E1, N1, F1, -, -, st'⟩ := excL1 Y hx hl hZ hown hok w1 w2 wT wi r (by show ThS Z s.heap; rw [hsh]; exact ThS.start.ext O0.2) (ThS.start.ext O.2) (hKn rfl).1 (hKn rfl).2 eT E N0 B B2 hmsg (g := mkF m pc Ls (msg :: .ref a :: st)) rfl (by rw [hml]; exact hsz) rfl (hb hby hd) hf (by show 2 * 0 + _ + _ ≤ _; omega) hc hsl
  have kk := keep_of_kp Kp'
  have c1 := CHr.keep (vm := vm0) kk (fun x hx => by cases List.mem_singleton.mp hx; exact hsf) hC.1
  exact Go.go st' (k T' h' ⟨k0, _, Y', Fr.six N hn0, e', O.keep kk (fun x hx => by cases List.mem_singleton.mp hx; exact hn0), K.trans kk (fun x hx => by cases List.mem_singleton.mp hx; exact hws), hx, hby, hml, hret, hlk, hown, hnm, hZ, hS, Nat.le_trans hk kk.1, hC.trans c1, hEW, hKn, hsh⟩ Kp' c1 E1 N1 F1)
theorem back_met {y : MethodName} {bytes' : ByteArray} {maxL' : Nat} {ret' : Option FieldType} {rm : Room} {len W : Nat} {as' : Array Value} {ws' sf' : List Addr} {Po : Option Value → Heap → Vm → Prop} (hM : Met l y bytes' maxL' ret' [] rm Z as' h n0 ws' EL kn sf' Po) (X : Here p l e R s m args below meth c Z bytes maxL ret own nm h0 n0 ws EL kn T h vm0 cells slots) (wc : (Cond.code y bytes' maxL' ret').before a0 Z = true) (wz : (Cond.initialized y.cls).before a0 Z = true) (hf : rm.frames + 1 ≤ R.frames) (hl : W + (maxL' + 11) + rm.locals ≤ R.locals) (hsf : ∀ x ∈ sf', x < h.size ∧ Safe Z EL vm0 h x) :
    BackS l R p e below (s.setVm vm0) args y len W (fun A a => a = as' ∧ A.U.heap = h ∧ A.cells + rm.cells ≤ R.cells ∧ A.slots + rm.slots ≤ R.slots) (fun A _ v B => ∃ L, QQ h n0 ws' Po v B.U.heap B.U.vm L ∧ B.locs = A.locs ++ L ∧ B.cells = A.cells + rm.cells ∧ B.slots = A.slots + rm.slots ∧ CHr Z EL vm0 h B.U.vm B.U.heap) := by
  obtain ⟨k0, locs, Y, N, eT, O, K, hx, hby, hml, hret, hlk, hown, hnm, hZ, hS, hk, hC, ⟨a1, hEW⟩, hKn, hsh⟩ := X
  refine BackS.of_freeWG (s := s.setVm vm0) (bytes := bytes') (maxL := maxL') (ret := ret') (E := fun _ first o t L k n => k = rm.cells ∧ n = rm.slots ∧ (∃ v, o = .returned v ∧ QQ h n0 ws' Po v t.heap t.vm L) ∧ CHr Z EL first.vm first.heap t.vm t.heap) hM hf hl ?_ ?_ ?_ ?_ ?_
  · intro m meth c A a Y hp
    have hU : Z.Warmed39 A.U.vm := wtrans (s := s.setVm vm0) hZ Y.warmed
    exact ⟨by show (Cond.and _ .tt).before a A.U = true; rw [Cond.before_and, mv hU wc]; rfl, mv hU wc, mv hU wz, hp.2.2.1, hp.2.2.2⟩
  · intro m meth c A a g mk Y hp
    have c1 := CHv.at Y hZ hEW hC.1
    exact ⟨hp.1, wtrans (s := s.setVm vm0) hZ Y.warmed, hp.2.1, c1.1, fun x hx => c1.safe (hsf x hx).1 (hsf x hx).2⟩
  · intro m meth c A a g mk Y _ hg q
    exact known_frames Y hg (hKn q).1 (hKn q).2
  · rintro _ _ _ _ ⟨v, L, h1, h2, h3, h4⟩
    exact ⟨L, _, _, h4, rfl, rfl, ⟨v, h1, h2⟩, h3⟩
  · rintro m meth c A a g mk v t L k n Y hp _ _ ⟨e1, e2, ⟨v', e3, e4⟩, e5⟩
    cases e3; subst e1 e2
    refine ⟨L, e4, rfl, rfl, rfl, (CHv.at Y hZ hEW hC.1).trans ?_⟩
    rw [← hp.2.1]; exact e5
theorem back_road {y : MethodName} {len W kc ks : Nat} {as' : Array Value} {Q : Option Value → Heap → List Loc → Prop} {ws' : List Addr} (X : Here p l e R s m args below meth c Z bytes maxL ret own nm h0 n0 ws EL kn T h vm0 cells slots) (hB : Back l R p e below (s.setVm vm0) args y len W (fun A a => a = as' ∧ A.U.heap = h ∧ A.cells + kc ≤ R.cells ∧ A.slots + ks ≤ R.slots) (fun A _ v B => ∃ L, Q v B.U.heap L ∧ B.locs = A.locs ++ L ∧ B.cells = A.cells + kc ∧ B.slots = A.slots + ks)) (hgr : ∀ v h' L, Q v h' L → Keep h h' ws') (hsf : ∀ x ∈ ws', Safe Z EL vm0 h x) :
    BackS l R p e below (s.setVm vm0) args y len W (fun A a => a = as' ∧ A.U.heap = h ∧ A.cells + kc ≤ R.cells ∧ A.slots + ks ≤ R.slots) (fun A _ v B => ∃ L, (fun v h (_ : Vm) L => Q v h L) v B.U.heap B.U.vm L ∧ B.locs = A.locs ++ L ∧ B.cells = A.cells + kc ∧ B.slots = A.slots + ks ∧ CHr Z EL vm0 h B.U.vm B.U.heap) := by
  obtain ⟨k0, locs, Y, N, eT, O, K, hx, hby, hml, hret, hlk, hown, hnm, hZ, hS, hk, hC, ⟨a1, hEW⟩, hKn, hsh⟩ := X
  intro m meth c A g ig mk a X hg hsize hdg hW hn hp
  obtain ⟨v, B, X', hpost, hsteps⟩ := hB m meth c A g ig mk a X hg hsize hdg hW hn hp
  obtain ⟨L, q, q1, q2, q3⟩ := hpost
  have kk := hgr _ _ _ q
  refine ⟨v, B, X'.retabled X'.warmed.wide, X'.warmed.since _, ?_, ⟨L, q, q1, q2, q3, ?_⟩, hsteps⟩
  · rw [hp.2.1]; exact kk.1
  · have c1 := CHr.keep (vm := vm0) kk hsf hC.1
    exact c1.trans (CHv.at X' hZ hEW c1.1)
theorem nf_sel {C : String} {y : MethodName} (w : (Cond.selects C y y).before a0 Z = true) : ∀ s' : State, Z.Warmed39 s'.vm → NotFace s' y := fun s' hz => notFace_of_selects (args := #[]) (mvT hz w)
theorem qq_fr {ws' : List Addr} {Po : Option Value → Heap → Vm → Prop} : ∀ v h' vm' L, QQ h n0 ws' Po v h' vm' L → Fr n0 L ∧ Keep h h' ws' := fun _ _ _ _ q => ⟨q.1, q.2.1⟩
end Kit
end Jvm.OwnKit

namespace Jvm.OwnKit
open Sem ClassFile Op Lib Jvm.Stand Jvm.Free Jvm.LawKit Jvm.RoadKit
section Common
variable {Z : State} {h : Heap} {a0 : Array Value}
theorem own_ne {a b : Nat} (h : a < b ∨ b < a) : a ≠ b := fun q => by omega
theorem own_lt {a b : Nat} (h : b > a) : a < b := h
theorem own_nsRoot {O K : String} {n : Nat} (w : (Cond.noSuperclass O).before a0 Z = true) (wk : (Cond.instantiable K n).before a0 Z = true) (hn : O ≠ K) : NS Z O K := by
  obtain ⟨c, k, h1, h2, h3, -, -⟩ := Cond.noSuperclass_spec w
  obtain ⟨t, kt, g1, -⟩ := Cond.instantiable_spec wk
  have ne := ids_ne h1 g1 hn
  refine ⟨c, t, h1, g1, fun fuel => ?_⟩
  cases fuel with
  | zero => rfl
  | succ f => simp [Vm.isSubclassAux, ne, h2, h3]
theorem own_nsNo {C S K : String} {n : Nat} (w : (Cond.superclass C S).before a0 Z = true) (wk : (Cond.instantiable K n).before a0 Z = true) (q : NS Z C K) (hn : C ≠ K) : ∃ c t, Z.vm.findClass C = some c ∧ Z.vm.findClass K = some t ∧ Z.vm.assignable c t = false := by
  obtain ⟨c, t, h0, g0, n3⟩ := q
  obtain ⟨p, k, kp, h1, h2, h3, h4, h5, -, h7⟩ := Cond.superclass_spec h0 w
  obtain ⟨t', kt, g1, g2, g3, g4, -⟩ := Cond.instantiable_spec wk
  cases g0.symm.trans g1
  have g7 : kt.isInterface = false := by cases hi : kt.isInterface <;> simp [hi] at g4 ⊢
  have ne := ids_ne h0 g0 hn
  refine ⟨c, t, h0, g0, ?_⟩
  show Z.vm.assignableAux (255 + 1) c t = false
  simp [Vm.assignableAux, ne, h2, g2, h5, g3, g7, Vm.isSubclass, n3]
theorem own_nfI {y : MethodName} {n : Nat} (w : (Cond.instantiable y.cls n).before a0 Z = true) : ∀ s' : State, Z.Warmed39 s'.vm → NotFace s' y := fun s' hz r0 hn => by
  have w' : (Cond.instantiable y.cls n).before #[] s' = true := mvT hz w
  obtain ⟨c, k, g1, g2, -, g4, -⟩ := Cond.instantiable_spec w'
  have q := findClass_of_methodNamed hn
  cases g1.symm.trans q
  exact ⟨k, g2, by cases hi : k.isInterface <;> simp [hi] at g4 ⊢⟩
theorem own_notIns {a : Addr} {C K : String} {ty : FieldType} (E : Exa Z h a C) (w : (Cond.arrayClass ty).before a0 Z = true) (hK : "[" ++ ty.toString = K) (q : ¬ Ins Z h a K true) : ∃ c t, Z.vm.findClass C = some c ∧ Z.vm.findClass K = some t ∧ Z.vm.assignable c t = false := by
  subst hK
  obtain ⟨cell, k, h1, h2, h3, h4, -⟩ := E
  obtain ⟨t, kt, comp, g1, -⟩ := Cond.arrayClass_spec w
  refine ⟨cell.cls, t, h2, g1, ?_⟩
  cases hb : Z.vm.assignable cell.cls t with
  | false => rfl
  | true => exact absurd ⟨cell, t, h1, g1, by simp [h4, hb]⟩ q
theorem own_c255 (x c : Int32) (e : (x &&& (255 : Int32)).toUInt32.toUInt16.toUInt32.toInt32 = c) : ¬ c < 0 ∧ ¬ (255 : Int32) < c := by
  subst e
  have t : ∀ k : Fin 256, ¬ ((Int32.ofNat k.val).toUInt32.toUInt16.toUInt32.toInt32) < 0 ∧ ¬ (255 : Int32) < ((Int32.ofNat k.val).toUInt32.toUInt16.toUInt32.toInt32) := by decide +kernel
  have h : (x &&& 255).toBitVec.toNat < 256 := by
    simp only [Int32.toBitVec_and, BitVec.toNat_and]
    exact Nat.lt_succ_of_le Nat.and_le_right
  have e : (x &&& 255) = Int32.ofNat (x &&& 255).toBitVec.toNat := by
    apply Int32.toBitVec_inj.mp
    show _ = BitVec.ofNat 32 _
    rw [BitVec.ofNat_toNat]; simp
  rw [e]
  exact t ⟨_, h⟩
theorem own_narC {c : Int32} (r : ¬ c < 0 ∧ ¬ (255 : Int32) < c) : nar .char c = c := by
  have t : ∀ k : Fin 256, nar .char (Int32.ofNat k.val) = Int32.ofNat k.val := by decide +kernel
  have h1 : 0 ≤ c.toInt := by have q := r.1; rw [Int32.lt_iff_toInt_lt] at q; have e : (0 : Int32).toInt = 0 := rfl; omega
  have h2 : c.toInt ≤ 255 := by have q := r.2; rw [Int32.lt_iff_toInt_lt] at q; have e : (255 : Int32).toInt = 255 := rfl; omega
  have e : c = Int32.ofNat c.toInt.toNat := by
    apply Int32.toInt_inj.mp
    rw [Int32.toInt_ofNat_of_lt (by omega)]
    omega
  rw [e]
  exact t ⟨c.toInt.toNat, by omega⟩
theorem own_narB (x : Int32) : nar .byte (x.toInt8.toInt32) = x.toInt8.toInt32 := by simp [nar]
theorem own_up (cs : List Int32) (h : ∀ c ∈ cs, ¬ c < 0 ∧ ¬ (255 : Int32) < c) : ∀ c ∈ cs, ¬ c < 0 ∧ ¬ (65535 : Int32) < c := fun c hc => ⟨(h c hc).1, fun q => (h c hc).2 (by rw [Int32.lt_iff_toInt_lt] at q ⊢; have e1 : (65535 : Int32).toInt = 65535 := rfl; have e2 : (255 : Int32).toInt = 255 := rfl; omega)⟩
theorem own_place (x : Int32) (h1 : ¬ x < (-128 : Int32)) (h2 : ¬ (127 : Int32) < x) : (¬ (x + (128 : Int32)) < 0 ∧ (x + (128 : Int32)) < (256 : Int32)) ∧ (x + (128 : Int32)).toNatClampNeg < 256 := by
  have q := Jvm.Free.IntBox.place_ok x h1 h2
  refine ⟨⟨fun z => q.1 (Or.inl z), ?_⟩, q.2⟩
  have h := q.2
  rw [Int32.lt_iff_toInt_lt]
  have e : (256 : Int32).toInt = 256 := rfl
  simp only [Int32.toNatClampNeg] at h
  omega
theorem own_allC {c : Int32} {cs : List Int32} {P : Int32 → Prop} (h : P c) (r : ∀ d ∈ cs, P d) : ∀ d ∈ c :: cs, P d := fun d q => (List.mem_cons.mp q).elim (fun u => u ▸ h) (r d)
theorem own_icache {args : Array Value} {s : State} (hf : Fit s) (wI : (Cond.initialized "java/lang/Integer$IntegerCache").before args s = true) (w2 : (Cond.initializedFor "java/lang/Integer$IntegerCache" "high" "I").before args s = true) (w3 : (Cond.laysStatic "java/lang/Integer$IntegerCache" "cache" "[Ljava/lang/Integer;").before args s = true)
    (w4 : (Cond.eq (Term.static "java/lang/Integer$IntegerCache" "high" "I") (Term.int 127)).before args s = true) (w5 : (Cond.arrayOf (Term.static "java/lang/Integer$IntegerCache" "cache" "[Ljava/lang/Integer;") (.object "java/lang/Integer")).before args s = true)
    (w6 : (Cond.eq (Term.length (Term.static "java/lang/Integer$IntegerCache" "cache" "[Ljava/lang/Integer;")) (Term.int 256)).before args s = true)
    (w7 : (Cond.all (Term.static "java/lang/Integer$IntegerCache" "cache" "[Ljava/lang/Integer;") (Cond.and (Cond.exactly (Term.elem (Term.static "java/lang/Integer$IntegerCache" "cache" "[Ljava/lang/Integer;") (Term.index 0)) "java/lang/Integer") (Cond.eq (Term.field (Term.elem (Term.static "java/lang/Integer$IntegerCache" "cache" "[Ljava/lang/Integer;") (Term.index 0)) "java/lang/Integer" "value" "I") (Term.sub (Term.index 0) (Term.int 128))))).before args s = true) :
    ∃ (ca : Addr) (kca : ClassId) (cvs : List Value), Sta s s.heap "java/lang/Integer$IntegerCache" "high" "I" (.int (127 : Int32)) ∧ Sta s s.heap "java/lang/Integer$IntegerCache" "cache" "[Ljava/lang/Integer;" (.ref ca) ∧ Arv s s.heap ca kca (.object "java/lang/Integer") (256 : Int32) cvs .null ∧ ∀ i, i < 256 → ∃ r, cvs.getD i .null = .ref r ∧ Exa s s.heap r "java/lang/Integer" := by
  have eh := Cond.eq_int (show (Cond.eq (Term.static "java/lang/Integer$IntegerCache" "high" "I") (.int 127)).holds args s none s [] = true from w4) (rfl : (Term.int 127).eval args s none [] s = some (.int 127))
  obtain ⟨v, ev, -⟩ := static_fit hf w3 (ty := .array (.object "java/lang/Integer")) (by decide)
  obtain ⟨a, cell, rfl, hA, harr, hvm⟩ := Jvm.Free.IntBox.arrayOf_fwd w5 ev
  have hat := Jvm.Free.IntBox.arrayAt_of hA harr hvm
  obtain ⟨hsz, hsize⟩ := Jvm.Free.IntBox.length_fwd w6 ev hA harr hvm
  have h256 : cell.slots.size = 256 := by
    have e : (cell.slots.size.toInt32).toInt = cell.slots.size := by
      have : (cell.slots.size.toInt32).toInt = (cell.slots.size : Int).bmod (2 ^ 32) := by simp [Nat.toInt32, Int32.size]
      rw [this]; simp [Int.bmod]; omega
    rw [hsize] at e
    have : ((256 : Int32)).toInt = 256 := by decide
    omega
  have hall := Cond.all_elim ev hat (Cond.before_iff.mp w7)
  have hel : ∀ i, i < 256 → ∃ r, cell.slots[i]? = some (.ref r) ∧ Exa s s.heap r "java/lang/Integer" := fun i hi => by
    obtain ⟨q1, -⟩ := and_e (hall i (by rw [h256]; exact hi))
    obtain ⟨r, er⟩ := exa_v q1
    refine ⟨r, ?_, exa_at er q1⟩
    have evi : (Term.static "java/lang/Integer$IntegerCache" "cache" "[Ljava/lang/Integer;").eval args s none [i] s = some (.ref a) := ev
    obtain ⟨hnn, hback⟩ := Jvm.Free.IntBox.place_nonneg i hi
    have e2 : ∀ t : Term, t.eval args s none [i] s = some (.ref a) → (Term.elem t (.index 0)).eval args s none [i] s = cell.slots[i]? := fun t ht => by
      simp [Term.eval, ht, hnn, hat, hback]
    rw [← e2 _ evi]; exact er
  refine ⟨a, cell.cls, cell.slots.toList, Sta.start eh (Or.inl w2), Sta.start ev (Or.inr ⟨wI, w3⟩), ⟨cell, ⟨hA, harr, hvm⟩, rfl, by rw [h256]; decide, by decide, fun k hk => ?_, fun k hk => ?_⟩, fun i hi => ?_⟩
  · rw [List.getD_eq_getElem?_getD, Array.getElem?_toList, Array.getElem?_eq_getElem hk]; rfl
  · obtain ⟨r, e, -⟩ := hel k (by rw [← h256]; exact hk)
    rw [List.getD_eq_getElem?_getD, Array.getElem?_toList, e]; rfl
  · obtain ⟨r, e, E⟩ := hel i hi
    exact ⟨r, by rw [List.getD_eq_getElem?_getD, Array.getElem?_toList, e]; rfl, E⟩
theorem own_lcache {args : Array Value} {s : State} (hf : Fit s) (wI : (Cond.initialized "java/lang/Long$LongCache").before args s = true) (w3 : (Cond.laysStatic "java/lang/Long$LongCache" "cache" "[Ljava/lang/Long;").before args s = true)
    (w5 : (Cond.arrayOf (Term.static "java/lang/Long$LongCache" "cache" "[Ljava/lang/Long;") (.object "java/lang/Long")).before args s = true)
    (w6 : (Cond.eq (Term.length (Term.static "java/lang/Long$LongCache" "cache" "[Ljava/lang/Long;")) (Term.int 256)).before args s = true)
    (w7 : (Cond.all (Term.static "java/lang/Long$LongCache" "cache" "[Ljava/lang/Long;") (Cond.and (Cond.exactly (Term.elem (Term.static "java/lang/Long$LongCache" "cache" "[Ljava/lang/Long;") (Term.index 0)) "java/lang/Long") (Cond.eq (Term.field (Term.elem (Term.static "java/lang/Long$LongCache" "cache" "[Ljava/lang/Long;") (Term.index 0)) "java/lang/Long" "value" "J") (Term.op1 Unary.i2l (Term.sub (Term.index 0) (Term.int 128)))))).before args s = true) :
    ∃ (ca : Addr) (kca : ClassId) (cvs : List Value), Sta s s.heap "java/lang/Long$LongCache" "cache" "[Ljava/lang/Long;" (.ref ca) ∧ Arv s s.heap ca kca (.object "java/lang/Long") (256 : Int32) cvs .null ∧ ∀ i, i < 256 → ∃ r, cvs.getD i .null = .ref r ∧ Exa s s.heap r "java/lang/Long" := by
  obtain ⟨v, ev, -⟩ := static_fit hf w3 (ty := .array (.object "java/lang/Long")) (by decide)
  obtain ⟨a, cell, rfl, hA, harr, hvm⟩ := Jvm.Free.IntBox.arrayOf_fwd w5 ev
  have hat := Jvm.Free.IntBox.arrayAt_of hA harr hvm
  obtain ⟨hsz, hsize⟩ := Jvm.Free.IntBox.length_fwd w6 ev hA harr hvm
  have h256 : cell.slots.size = 256 := by
    have e : (cell.slots.size.toInt32).toInt = cell.slots.size := by
      have : (cell.slots.size.toInt32).toInt = (cell.slots.size : Int).bmod (2 ^ 32) := by simp [Nat.toInt32, Int32.size]
      rw [this]; simp [Int.bmod]; omega
    rw [hsize] at e
    have : ((256 : Int32)).toInt = 256 := by decide
    omega
  have hall := Cond.all_elim ev hat (Cond.before_iff.mp w7)
  have hel : ∀ i, i < 256 → ∃ r, cell.slots[i]? = some (.ref r) ∧ Exa s s.heap r "java/lang/Long" := fun i hi => by
    obtain ⟨q1, -⟩ := and_e (hall i (by rw [h256]; exact hi))
    obtain ⟨r, er⟩ := exa_v q1
    refine ⟨r, ?_, exa_at er q1⟩
    have evi : (Term.static "java/lang/Long$LongCache" "cache" "[Ljava/lang/Long;").eval args s none [i] s = some (.ref a) := ev
    obtain ⟨hnn, hback⟩ := Jvm.Free.IntBox.place_nonneg i hi
    have e2 : ∀ t : Term, t.eval args s none [i] s = some (.ref a) → (Term.elem t (.index 0)).eval args s none [i] s = cell.slots[i]? := fun t ht => by
      simp [Term.eval, ht, hnn, hat, hback]
    rw [← e2 _ evi]; exact er
  refine ⟨a, cell.cls, cell.slots.toList, Sta.start ev (Or.inr ⟨wI, w3⟩), ⟨cell, ⟨hA, harr, hvm⟩, rfl, by rw [h256]; decide, by decide, fun k hk => ?_, fun k hk => ?_⟩, fun i hi => ?_⟩
  · rw [List.getD_eq_getElem?_getD, Array.getElem?_toList, Array.getElem?_eq_getElem hk]; rfl
  · obtain ⟨r, e, -⟩ := hel k (by rw [← h256]; exact hk)
    rw [List.getD_eq_getElem?_getD, Array.getElem?_toList, e]; rfl
  · obtain ⟨r, e, E⟩ := hel i hi
    exact ⟨r, by rw [List.getD_eq_getElem?_getD, Array.getElem?_toList, e]; rfl, E⟩
def own_bs (cs : List Int32) : List Value := (cs.map (fun c => c.toInt8.toInt32)).map Value.int
theorem own_placeL (x : Int64) (h1 : ¬ (lcmpW x (-128 : Int64)) < (0 : Int32)) (h2 : ¬ (0 : Int32) < (lcmpW x (127 : Int64))) : (¬ (x.toInt32 + (128 : Int32)) < 0 ∧ (x.toInt32 + (128 : Int32)) < (256 : Int32)) ∧ (x.toInt32 + (128 : Int32)).toNatClampNeg < 256 := by
  have a1 : ¬ x < (-128 : Int64) := fun q => h1 (by
    have n1 : ¬ (-128 : Int64) < x := Int64.not_lt.mpr (Int64.le_of_lt q)
    have n2 : ¬ x = (-128 : Int64) := fun e => by subst e; exact absurd q (by decide)
    simp only [lcmpW, if_neg n1, if_neg n2]; decide)
  have a2 : ¬ (127 : Int64) < x := fun q => h2 (by simp only [lcmpW, if_pos q]; decide)
  rw [Int64.lt_iff_toInt_lt] at a1 a2
  have e1 : (-128 : Int64).toInt = -128 := rfl
  have e2 : (127 : Int64).toInt = 127 := rfl
  have e3 : x.toInt32.toInt = x.toInt := by rw [Int64.toInt_toInt32]; simp [Int.bmod]; omega
  refine own_place x.toInt32 ?_ ?_ <;> rw [Int32.lt_iff_toInt_lt]
  · have e4 : (-128 : Int32).toInt = -128 := rfl
    omega
  · have e4 : (127 : Int32).toInt = 127 := rfl
    omega
end Common
end Jvm.OwnKit
namespace Jvm.OwnKit
open Sem ClassFile Op Lib Jvm.Stand Jvm.Free Jvm.LawKit Jvm.RoadKit
theorem own_safe0 {Z : State} {vm : Vm} {h : Heap} (x : Addr) : Safe Z [] vm h x := fun ⟨_, hp, _⟩ => nomatch hp
theorem own_sfS {P : Addr → Prop} {x : Addr} {L : List Addr} (q : P x) (r : ∀ y ∈ L, P y) : ∀ y ∈ x :: L, P y := fun y hy => (List.mem_cons.mp hy).elim (fun u => u ▸ q) (r y)
theorem own_arrRef {args : Array Value} {first s : State} {o : Option Outcome} {idx : List Nat} {t : Term} {ty : FieldType} (h : (Cond.arrayOf t ty).value args first o s idx = some true) : ∃ a, t.eval args first o idx s = some (.ref a) := by
  simp only [Cond.value] at h
  split at h
  · cases h
  · cases ht : t.eval args first o idx s with
    | none => simp [ht] at h
    | some x => cases x <;> simp [ht] at h ⊢
end Jvm.OwnKit

/-! Throwable.fillInStackTrace() on an object that the walk has made, from the words of this claim alone -/
namespace Jvm.OwnKit
open Sem ClassFile Op Lib Jvm.Lib.Cold Jvm.Stand Jvm.Free Jvm.LawKit Jvm.RoadKit Bundle Jvm.Free.Exc Jvm.Free.Str
def fillAtoms (rc : String) : List Cond := [.initialized tN, .superclass tN "java/lang/Object", .instanceMethod tFill, .codeSync tFill LibCode.Throwable.Fill.code 1 (some (.object tN)), .instanceMethod tFill0, .native tFill0, .instanceMethod oInit, .code oInit ⟨#[0xb1]⟩ 1 none,
  .methodLink tN 1 oInit, .methodLink tN 27 tFill, .methodLink tN 202 tFill0, .fieldLink tN 7 tN "cause" thD, .fieldLink tN 17 tN "stackTrace" steD, .fieldLink tN 24 tN "suppressedExceptions" listD, .fieldLink tN 13 tN "UNASSIGNED_STACK" steD, .laysStatic tN "UNASSIGNED_STACK" steD,
  .fieldLink tN 20 tN "SUPPRESSED_SENTINEL" listD, .laysStatic tN "SUPPRESSED_SENTINEL" listD, .fieldLink tN 198 tN "backtrace" obD, .selects rc tFill0 tFill0, .lays rc tN "cause" thD, .lays rc tN "stackTrace" steD, .lays rc tN "suppressedExceptions" listD, .lays rc tN "detailMessage" msgD,
  .lays rc tN "backtrace" obD, .lays rc tN "depth" "I", .arrayOver (.object "java/lang/Object"), .soleField tN "backtrace", .soleField tN "depth"]
theorem fill_ok {rc : String} : (fillAtoms rc).all xOk = true := rfl
theorem own_tc {args : Array Value} {s : State} {pl : Platform} {rc : String} (howns : pl.frameOwnsMonitors = true) (hfin : pl.finalization = false) (hpl : pl.magicAccessors = ({} : Platform).magicAccessors) (W : ∀ d ∈ fillAtoms rc, d.before args s = true) :
    ∃ T : ThrowableC, T.Links pl s ∧ s.vm.findClass tN = some T.cT ∧ s.methodNamed? tFill = some T.fill ∧ s.methodNamed? tFill0 = some T.fill0 ∧ s.fieldFound? tN "stackTrace" steD = some (T.cT, T.kT, T.i17, T.fStack) ∧ T.fStack.type = .array (.object "java/lang/StackTraceElement") ∧ s.fieldFound? tN "UNASSIGNED_STACK" steD = some (T.cT, T.kT, T.i13, T.fUnassigned) := by
  have w : ∀ (i : Nat) (d : Cond), (fillAtoms rc)[i]? = some d → d.holds args s none s [] = true := fun i d q => W d (List.mem_of_getElem? q)
  obtain ⟨⟨cT, i0⟩, m0, n0, g0, nat0, cd0, lk0, sg0⟩ := Cond.native_spec (w 5 _ rfl)
  have fT : s.vm.findClass tN = some cT := findClass_of_methodNamed n0
  obtain ⟨kT, kk, nmT⟩ := Vm.findClass_spec fT
  obtain ⟨_, k1, _, _, kk1, _, _, -, _, noI⟩ := Cond.superclass_spec fT (w 1 _ rfl)
  cases Option.some.inj (kk.symm.trans kk1)
  obtain ⟨j0, m0', n0', g0', at0, st0, ab0, nm0, ds0⟩ := Cond.ownMethod (x := tFill0) fT kk (w 4 _ rfl)
  cases Option.some.inj (n0.symm.trans n0')
  cases Option.some.inj (g0.symm.trans g0')
  obtain ⟨jF, mF, nF, gF, atF, stF, abF, -, -⟩ := Cond.ownMethod (x := tFill) fT kk (w 2 _ rfl)
  obtain ⟨mF', cF, gF', cdF, byF, loF, rtF, lkF, -, sgF⟩ := Cond.codeSync_spec nF (w 3 _ rfl)
  cases Option.some.inj (gF.symm.trans gF')
  obtain ⟨mO, metO, nO, gO, stO, abO⟩ := Cond.instanceMethod_spec (w 6 _ rfl)
  obtain ⟨metO', cO, gO', cdO, byO, -, -, lkO, -, sgO⟩ := Cond.code_spec nO (w 7 _ rfl)
  cases Option.some.inj (gO.symm.trans gO')
  obtain ⟨kO, kkO, nmO⟩ := Vm.findClass_spec (findClass_of_methodNamed nO)
  obtain ⟨noO, dsO⟩ := name_of_methodNamed nO gO
  obtain ⟨ci1, t1, cf, l1, r1, cfe, p1⟩ := Cond.linkedMethod fT kk nO (w 8 _ rfl) pl hpl
  obtain ⟨ci27, t27, cf2, l27, r27, cfe2, p27⟩ := Cond.linkedMethod fT kk nF (w 9 _ rfl) pl hpl
  cases Option.some.inj (cfe.symm.trans cfe2)
  obtain ⟨ci202, t202, cf3, l202, r202, cfe3, p202⟩ := Cond.linkedMethod fT kk n0 (w 10 _ rfl) pl hpl
  cases Option.some.inj (cfe.symm.trans cfe3)
  obtain ⟨ci7, i7, f7, l7, r7, a7, s7, e7, -, -, -⟩ := Cond.ownField (t := .object tN) fT kk (by decide +kernel) (w 11 _ rfl) (w 20 _ rfl) pl hpl
  obtain ⟨ci17, i17, f17, l17, r17, a17, s17, e17, q17, t17, h17⟩ := Cond.ownField (t := .array (.object "java/lang/StackTraceElement")) fT kk (by decide +kernel) (w 12 _ rfl) (w 21 _ rfl) pl hpl
  obtain ⟨ci24, i24, f24, l24, r24, a24, s24, e24, q24, -, h24⟩ := Cond.ownField (t := .object "java/util/List") fT kk (by decide +kernel) (w 13 _ rfl) (w 22 _ rfl) pl hpl
  obtain ⟨ci13, i13, f13, aS, -, l13, r13, a13, s13, -, -, hst, -, -, -, -, h13⟩ := Cond.ownStatic (t := .array (.object "java/lang/StackTraceElement")) fT kk (by decide +kernel) (w 14 _ rfl) (w 15 _ rfl) pl hpl
  obtain ⟨ci20, i20, f20, -, -, l20, r20, a20, s20, -⟩ := Cond.ownStatic (t := .object "java/util/List") fT kk (by decide +kernel) (w 16 _ rfl) (w 17 _ rfl) pl hpl
  obtain ⟨cX, kX, _, _, _, fM, fX, kkX, -, sM, eM, -⟩ := Cond.lays_spec (w 23 _ rfl)
  obtain ⟨-, d17, dd17, dn17⟩ := Cond.laysAt fX kkX h17 (w 21 _ rfl)
  obtain ⟨-, d24, dd24, dn24⟩ := Cond.laysAt fX kkX h24 (w 22 _ rfl)
  have ap := Cond.laysApart dd17 dd24 dn17 dn24 (by rw [q17, q24]; decide)
  have pF : mF.sig.parameters = [] := by
    have z : (parseMethodDescriptor tFill.desc).map (·.parameters) = some [] := by decide +kernel
    rw [sgF] at z; simpa using z
  have p0 : m0.sig.parameters = [.int] := by
    have z : (parseMethodDescriptor tFill0.desc).map (·.parameters) = some [.int] := by decide +kernel
    rw [sg0] at z; simpa using z
  have pO : metO.sig.parameters.length = 0 := by
    have z : (parseMethodDescriptor oInit.desc).map (·.parameters) = some [] := by decide +kernel
    rw [sgO] at z; have z2 : metO.sig.parameters = [] := by simpa using z
    rw [z2]; rfl
  refine ⟨{ cT := cT, kT := kT, cO := cT, aS := aS, fillIdx := jF, fill0Idx := i0, initSIdx := jF, obj := mO, kObj := kO, methFill := mF, methFill0 := m0, methInitS := mF, methObj := metO, codeFill := cF, codeInitS := cF, codeObj := cO,
            fBack := f7, fDepth := f7, fStack := f17, fCause := f7, fSupp := f24, fMsg := fM, fUnassigned := f13, fSentinel := f20, cfT := cf, ci1 := ci1, n1 := t1, ci27 := ci27, n27 := t27, ci202 := ci202, n202 := t202,
            ci7 := ci7, i7 := i7, ci13 := ci13, i13 := i13, ci17 := ci17, i17 := i17, ci20 := ci20, i20 := i20, ci24 := ci24, i24 := i24 }, ?_, fT, nF, n0, h17, t17, h13⟩
  constructor <;> first | assumption | exact Vm.findClass_boot fT kk | exact Cond.initialized_spec fT kk (w 0 _ rfl) | (rw [dsO]; exact lookupSpecial_of_named nO gO stO)
section
variable {p : Program} {l : Launch} {e : Env} {R : Room} {s : State} {m : MethodId} {args : Array Value} {below : List Frame} {meth : Method} {c : Code} {Z : State} {bytes : ByteArray} {maxL : Nat} {ret : Option FieldType} {own nm : String} {h0 : Heap} {n0 : Nat} {ws : List Addr} {T : State} {h : Heap} {cells slots : Nat} {a0 : Array Value} {EL : List (String × Nat)} {vm0 : Vm}
def QF (Z : State) (h : Heap) (a : Addr) (v : Option Value) (h' : Heap) (L : List Loc) : Prop := v = some (.ref a) ∧ (∀ x ∈ L, x.base = a) ∧ Kp Z h h' a
theorem own_fill {rc : String} {nn W len : Nat} {a : Addr} {u : Addr} (X : Here p l e R s m args below meth c Z bytes maxL ret own nm h0 n0 ws EL true T h vm0 cells slots) (hl : l.stackTraces = true) (hw : ∀ d ∈ fillAtoms rc, d.before a0 Z = true) (wi : (Cond.instantiable rc nn).before a0 Z = true) (O0 : Old Z n0 h0)
    (E : Exa Z h a rc) (N0 : Unt h a) (B0 : Fld Z h a tN "backtrace" obD .null) (S0 : Fld Z h a tN "stackTrace" steD (.ref u)) (U0 : Sta Z h tN "UNASSIGNED_STACK" steD (.ref u)) (hf : 3 ≤ R.frames) (hlo : W + 42 ≤ R.locals) :
    Back l R p e below (s.setVm vm0) args tFill len W (fun A b => b = #[.ref a] ∧ A.U.heap = h ∧ A.cells + 1 ≤ R.cells ∧ A.slots + 2752 ≤ R.slots) (fun A _ v B => ∃ L, QF Z h a v B.U.heap L ∧ B.locs = A.locs ++ L ∧ B.cells = A.cells + 1 ∧ B.slots = A.slots + 2752) := by
  obtain ⟨k0, locs, Y, N, eT, O, K, hx, hby, hml, hret, hlk, hown, hnm, hZ, hS, hk, hC, hEW, hKn, hsh⟩ := X
  have pl := Y.admits.platform
  have hT0 : ThS Z (s.setVm vm0).heap := by show ThS Z s.heap; rw [hsh]; exact ThS.start.ext O0.2
  have W' : ∀ d ∈ fillAtoms rc, d.before args (s.setVm vm0) = true := fun d hd => mvX hT0 hZ (List.all_eq_true.mp fill_ok d hd) (hw d hd)
  have w : ∀ (i : Nat) (d : Cond), (fillAtoms rc)[i]? = some d → d.before args (s.setVm vm0) = true := fun i d q => W' d (List.mem_of_getElem? q)
  obtain ⟨t, Lk, fT, nF, nF0, hS17, tS17, hU13⟩ := own_tc (pl := e.platform) (by rw [pl]) (by rw [pl]) (by rw [pl]) W'
  obtain ⟨cell, e1, e2, e3⟩ := N0
  obtain ⟨cell2, kc, x1, x2, x3, x4, x5⟩ := E
  cases e1.symm.trans x1
  obtain ⟨_, _, _, _, fS, y1, y2, y3, y4, y5, y6, y7⟩ := S0
  cases e1.symm.trans y1
  obtain ⟨_, _, _, y8⟩ := Jvm.Free.BdW.found_ride (U := Z) (U' := s.setVm vm0) hZ.alike ⟨_, _, _, y2⟩
  cases y8.symm.trans hS17
  obtain ⟨_, _, _, _, fB, z1, z2, z3, z4, z5, z6, z7⟩ := B0
  cases e1.symm.trans z1
  obtain ⟨_, _, _, z8⟩ := Jvm.Free.BdW.found_ride (U := Z) (U' := s.setVm vm0) hZ.alike ⟨_, _, _, z2⟩
  obtain ⟨cu, iu, ku, fu, su, cellS, u1, u2, u3, u4, u5, u6, u7⟩ := U0
  obtain ⟨ku', u8, u9⟩ := State.fieldFound?_setVm hZ.alike u1
  have u8' : (s.setVm vm0).fieldFound? tN "UNASSIGNED_STACK" steD = some (cu, ku', iu, fu) := u8
  cases u8'.symm.trans hU13
  obtain rfl : t.aS = su := by have q := Lk.statics; rw [u9] at q; exact Option.some.inj (q.symm.trans u4)
  obtain ⟨kc', v1, v2⟩ := hZ.alike.2.2 _ _ x3
  have x2' : (s.setVm vm0).vm.findClass rc = some cell.cls := by rw [← x2]; exact hZ.alike.findClass rc _
  have v1' : (s.setVm vm0).vm.classes[cell.cls]? = some kc' := v1
  obtain ⟨_, _, w1, w2, w3, -⟩ := Cond.instantiable_spec wi
  cases x2.symm.trans w1
  cases x3.symm.trans w2
  have ord : kc'.kind = .ordinary := by rw [v2]; exact w3
  have hsz : cell.slots.size = kc'.instanceTypes.size := by rw [v2]; exact x5 w3
  obtain ⟨tyS, dS, gS, nS⟩ := Cond.laysAt x2' v1' hS17 (w 21 _ rfl)
  obtain ⟨tyB, dB, gB, nB⟩ := Cond.laysAt x2' v1' z8 (w 24 _ rfl)
  obtain ⟨_, _, cD, kD, iD, fD, -, -, hD, sD, -⟩ := Cond.lays_spec (w 25 _ rfl)
  obtain ⟨tyD, dD, gD, nD⟩ := Cond.laysAt x2' v1' hD (w 25 _ rfl)
  cases Option.some.inj ((Cond.lays_declared (w 25 _ rfl) hD).symm.trans fT)
  obtain ⟨kD1, atD⟩ := State.fieldFound?_spec hD
  cases Option.some.inj (kD1.symm.trans Lk.cls)
  obtain ⟨qD, rD⟩ := State.fieldFound?_type hD (t := .int) (by decide +kernel)
  obtain ⟨ci, i198, fB', l198, r198, a198, sB, -, qB, rB, hB⟩ := Cond.ownField (t := .object "java/lang/Object") fT Lk.cls (by decide +kernel) (w 18 _ rfl) (w 24 _ rfl) e.platform (by rw [pl])
  cases z8.symm.trans hB
  have hfb := Cond.soleField_find fT Lk.cls (w 27 _ rfl) a198 qB sB
  have hfd := Cond.soleField_find fT Lk.cls (w 28 _ rfl) atD qD sD
  obtain ⟨comp, cO, kO, -, -, hkO, hkindO, hO⟩ := Cond.arrayOver_spec (w 26 _ rfl)
  have hsel0 : selectMethod e.platform (s.setVm vm0).vm cell.cls t.fill0 = .method t.fill0 := by
    obtain ⟨c2, r2, m2, q1, q2, q3, q4, -⟩ := Cond.selects_spec (w 19 _ rfl)
    cases Option.some.inj (q1.symm.trans x2')
    cases Option.some.inj (q2.symm.trans (State.methodFound?_of_named nF0 (by decide)))
    cases Option.some.inj (q3.symm.trans nF0)
    rw [Launch.admits_selectMethod Y.admits]; exact q4
  have tk : ∀ {f : Field} {v : Value}, kc'.instanceTypes[f.slot]? = some f.type → fits f.type v = true → Jvm.Takes (s.setVm vm0) cell f v := fun {f v} h1 h2 => by
    obtain ⟨q1, q2⟩ := Takes.of_laid (v := v) v1' ord h1 h2
    exact ⟨by rw [hsz]; simpa using q1, by rw [e2]; exact q2⟩
  have hne : t.aS ≠ a := fun z => by
    rw [z, e1] at u5; cases u5; rw [x4] at u6; cases u6
  intro m' meth' c' A g ig mk b Y' hg hsize hdg hWd hmk hp
  obtain ⟨hb, hh, hc1, hc2⟩ := hp
  obtain ⟨v, B, Y2, ⟨hv, vm', lines, hlen, hW', hU, hL, hc, hn⟩, st⟩ := Jvm.Free.Str.fillPays (l := l) (R := R) (p := p) (e := e) (below := below) (s := s.setVm vm0) (sargs := args) (len := len) (W := W) hx (by rw [pl]; exact hl) t Lk nF (u0 := ⟨.ref u, rfl⟩) (by simp) (self := a) (cell := cell) (cellS := cellS) (fun k => by rw [e2]; simp) (by rw [e2]; simp) (by rw [e3]) (by rw [e3]) y7 hsel0 hne (fun q => by rw [q] at u6; cases u6) u7 (tk tyS (by rw [tS17]; rfl))
    ⟨{ ci198 := ci, i198 := _, fBack := fB }, ⟨l198, r198, a198, sB⟩, z7⟩ (hKn rfl).1 (hKn rfl).2 fT hO hkO hkindO hfb hfd (fun x => tk tyB (by rw [rB]; rfl)) (fun x => tk tyD (by rw [rD]; rfl)) (by omega) hlo m' meth' c' A g ig mk b Y' hg hsize hdg hWd hmk ⟨hb, hc1, hc2, by rw [hh]; exact e1, by rw [hh]; exact u5⟩
  have hn2 := traceHolder_size_le cO hlen
  refine ⟨v, ⟨B.U, B.locs, B.cells, A.slots + 2752⟩, Y2.more (Nat.le_refl _) (by show B.slots ≤ A.slots + 2752; rw [hn]; exact Nat.add_le_add_left hn2 _), ⟨_, ⟨hv, ?_, ?_⟩, hL, hc, rfl⟩, st⟩
  · intro x hx'
    simp only [List.mem_cons, List.not_mem_nil, or_false] at hx'
    rcases hx' with rfl | rfl | rfl <;> rfl
  · have lt : a < h.size := (Array.getElem?_eq_some_iff.mp e1).1
    have eh : B.U.heap = (h.push (traceHolder cO lines)).setIfInBounds a (filledOn t.toThrowableT fB fD cell ⟨.ref u, rfl⟩ A.U.heap.size lines.length.toInt32) := by rw [hU, ← hh]; rfl
    rw [eh]
    refine ⟨by simp, fun y cy hy => ?_⟩
    have lty : y < h.size := (Array.getElem?_eq_some_iff.mp hy).1
    by_cases hya : y = a
    · subst hya
      cases e1.symm.trans hy
      refine ⟨filledOn t.toThrowableT fB fD cell ⟨.ref u, rfl⟩ A.U.heap.size lines.length.toInt32, by rw [Array.getElem?_setIfInBounds_self_of_lt (by rw [Array.size_push]; exact Nat.lt_succ_of_lt lt)], rfl, by simp [filledOn, Cell.setSlot], fun q => absurd rfl q, fun i hi => ?_⟩
      have i1 : fB.slot ≠ i := by have q := hi ("backtrace", obD) (by simp [sixNames]); simpa [RoadKit.slotOf, z2] using q
      have i2 : t.fStack.slot ≠ i := by have q := hi ("stackTrace", steD) (by simp [sixNames]); simpa [RoadKit.slotOf, y2] using q
      have i3 : fD.slot ≠ i := by
        obtain ⟨_, _, _, q2⟩ := Jvm.Free.BdW.found_ride (U := s.setVm vm0) (U' := Z) hZ.alike.symm ⟨_, _, _, hD⟩
        have q := hi ("depth", "I") (by simp [sixNames]); simpa [RoadKit.slotOf, q2] using q
      simp [filledOn, Cell.setSlot, Array.getElem?_setIfInBounds, i1, i2, i3]
    · refine ⟨cy, ?_, rfl, rfl, fun _ => rfl, fun _ _ => rfl⟩
      rw [Array.getElem?_setIfInBounds_ne (Ne.symm hya), Array.getElem?_push_lt lty]
      exact hy ▸ (Array.getElem?_eq_getElem lty).symm
end
end Jvm.OwnKit

/- laws to paste: Road.backV (cut by pick.py; bodies as the Statement names them) -/
namespace Jvm.Pilot.@@N@@
namespace StrChars
open Jvm Sem ClassFile Op Lib Jvm.Stand Jvm.Free.XT Jvm.Free.ALB Jvm.Free.JM Jvm.Free
open Jvm.Lib.Cold (StaticIs)
/-- a char array whose places are chars -/
def Ch (a : Addr) (A : Cell) (U : State) : Prop := Arr .char a A U ∧ Typed .char A
theorem Ch.mv {a : Addr} {A : Cell} {U U' : State} (h : Ch a A U) (hal : U.vm.Alike U'.vm) (hh : U'.heap = U.heap) : Ch a A U' := ⟨h.1.mv hal hh, h.2⟩
theorem Ch.keep {a : Addr} {A : Cell} {U U' : State} (h : Ch a A U) (hal : U.vm.Alike U'.vm) (hk : U'.heap[a]? = some A) : Ch a A U' := ⟨h.1.keep hal hk, h.2⟩
/-- what place i of a char[]'s cell holds -/
def cv (A : Cell) (i : Nat) : Int32 := match A.slots[i]? with | some (.int x) => x | _ => 0
theorem Ch.get {a : Addr} {A : Cell} {U : State} (h : Ch a A U) {i : Nat} (hi : i < A.slots.size) : A.slots[i]? = some (.int (cv A i)) := by
  have e := Array.getElem?_eq_getElem hi
  have f := h.2 i _ e
  unfold cv; rw [e]
  generalize A.slots[i] = v at f
  cases v <;> simp [fits] at f ⊢
/-- the byte that i2b leaves of a char -/
def lo8 (x : Int32) : Int32 := x.toInt8.toInt32
theorem fits_lo8 (y : Int32) : fits .byte (.int (lo8 y)) = true := by
  have h1 := y.toInt8.le_toInt
  have h2 := y.toInt8.toInt_lt
  simp only [lo8, fits, Bool.and_eq_true, decide_eq_true_eq, Int32.le_iff_toInt_le, Int8.toInt_toInt32, show (-128 : Int32).toInt = -128 from by decide, show (127 : Int32).toInt = 127 from by decide]
  omega
/-- A' is A but that each place j of lo .. hi - 1 holds f j -/
def Laid (A A' : Cell) (lo hi : Nat) (f : Nat → Value) : Prop := A'.cls = A.cls ∧ A'.vm = A.vm ∧ A'.slots.size = A.slots.size ∧ ∀ i, A'.slots[i]? = if lo ≤ i ∧ i < hi then some (f i) else A.slots[i]?
theorem Laid.zero (A : Cell) (lo : Nat) (f : Nat → Value) : Laid A A lo (lo + 0) f := ⟨rfl, rfl, rfl, fun i => by rw [if_neg (by omega)]⟩
theorem Laid.step {A Ak : Cell} {lo k : Nat} {f : Nat → Value} {v : Value} (h : Laid A Ak lo k f) (hlo : lo ≤ k) (hk : k < Ak.slots.size) (hv : v = f k) : Laid A (Ak.setSlot k v) lo (k + 1) f := by
  refine ⟨h.1, h.2.1, by simpa [Cell.setSlot] using h.2.2.1, fun i => ?_⟩
  by_cases e : k = i
  · subst e; rw [Cell.slots_setSlot_self v hk, if_pos (by omega), hv]
  · rw [Cell.slots_setSlot_ne v e, h.2.2.2 i]
    by_cases q : lo ≤ i ∧ i < k
    · rw [if_pos q, if_pos (by omega)]
    · rw [if_neg q, if_neg (by omega)]
def U16 : String := "java/lang/StringUTF16"
namespace Cmp5
def yN : MethodName := ⟨"java/lang/StringUTF16", "compress", "([CI[BII)I"⟩
abbrev yB : ByteArray := jdk_52_method_21_code
theorem d0 : decode yB 0 = .ok (.iconst 0, 1) := by decide +kernel
theorem d1 : decode yB 1 = .ok (.istore 5, 2) := by decide +kernel
theorem d3 : decode yB 3 = .ok (.iload 5, 2) := by decide +kernel
theorem d5 : decode yB 5 = .ok (.iload 4, 2) := by decide +kernel
theorem d7 : decode yB 7 = .ok (.if_icmp (.ge) 37, 3) := by decide +kernel
theorem d10 : decode yB 10 = .ok (.aload_n 0, 1) := by decide +kernel
theorem d11 : decode yB 11 = .ok (.iload_n 1, 1) := by decide +kernel
theorem d12 : decode yB 12 = .ok (.caload, 1) := by decide +kernel
theorem d13 : decode yB 13 = .ok (.istore 6, 2) := by decide +kernel
theorem d15 : decode yB 15 = .ok (.iload 6, 2) := by decide +kernel
theorem d17 : decode yB 17 = .ok (.sipush 255, 3) := by decide +kernel
theorem d20 : decode yB 20 = .ok (.if_icmp (.le) 6, 3) := by decide +kernel
theorem d26 : decode yB 26 = .ok (.aload_n 2, 1) := by decide +kernel
theorem d27 : decode yB 27 = .ok (.iload_n 3, 1) := by decide +kernel
theorem d28 : decode yB 28 = .ok (.iload 6, 2) := by decide +kernel
theorem d30 : decode yB 30 = .ok (.i2b, 1) := by decide +kernel
theorem d31 : decode yB 31 = .ok (.bastore, 1) := by decide +kernel
theorem d32 : decode yB 32 = .ok (.iinc 1 1, 3) := by decide +kernel
theorem d35 : decode yB 35 = .ok (.iinc 3 1, 3) := by decide +kernel
theorem d38 : decode yB 38 = .ok (.iinc 5 1, 3) := by decide +kernel
theorem d41 : decode yB 41 = .ok (.goto (-38), 3) := by decide +kernel
theorem d44 : decode yB 44 = .ok (.iload 4, 2) := by decide +kernel
theorem d46 : decode yB 46 = .ok (.ireturn, 1) := by decide +kernel
def site : List Cond := []
def tab : Cond := tabOf yN yB 7 (some .int) site
def P (b : Addr) (A : Cell) (d : Addr) (B : Cell) (o q len : Nat) (args : Array Value) (s : State) : Prop := args = #[.ref b, .int (Int32.ofNat o), .ref d, .int (Int32.ofNat q), .int (Int32.ofNat len)] ∧ Ch b A s ∧ Arr .byte d B s ∧ b ≠ d ∧ o + len ≤ A.slots.size ∧ q + len ≤ B.slots.size ∧ ∀ i, i < len → ¬ 255 < cv A (o + i)
def E (b : Addr) (A : Cell) (d : Addr) (B : Cell) (o q len : Nat) (r : Option Value) (s u : State) : Prop := r = some (.int (Int32.ofNat len)) ∧ ∃ B', Put d B' s u ∧ Laid B B' q (q + len) (fun j => Value.int (lo8 (cv A (o + (j - q)))))
/-- no char of the range above 255: len; the places written hold each char's low byte -/
theorem law (l : Launch) (b : Addr) (A : Cell) (d : Addr) (B : Cell) (o q len : Nat) : Law l yN 5 5 0 0 yB 7 (some .int) site (P b A d B o q len) (E b A d B o q len) (copyLocs d q len) 0 0 := by
  refine Law.of_walk (plainFor_of_name (by decide +kernel)) (by decide +kernel) (by decide +kernel) (by decide) (fun _ _ h => by rw [h.1]; rfl) (fun _ U U' hal hh h => ⟨h.1, h.2.1.mv hal hh, h.2.2.1.mv hal hh, h.2.2.2⟩) (fun r U U' V V' h1 hal h2 h => ⟨h.1, h.2.elim fun B' q => ⟨B', q.1.mv h1 h2, q.2⟩⟩) ?_
  intro p e s m args below meth c s₁ X0 hexec hbytes hml hret hlk hnm hown hh0 W hP
  obtain ⟨rfl, hA, hB, hne, l1, l2, hp⟩ := hP
  have c1 : Steps p.tables e below (s₁.setTop (entryFrame m #[.ref b, .int (Int32.ofNat o), .ref d, .int (Int32.ofNat q), .int (Int32.ofNat len)] 7)) (s₁.setTop (mkF m 0 #[.val (.ref b), .val (.int (Int32.ofNat o)), .val (.ref d), .val (.int (Int32.ofNat q)), .val (.int (Int32.ofNat len)), .unset, .unset] [])) := entry rfl
  have hA0 := hA.1.mv X0.warmed.alike hh0
  have hB0 := hB.mv X0.warmed.alike hh0
  have a31 := hA.1.2.2.2
  have c2 : Steps p.tables e below (s₁.setTop (entryFrame m #[.ref b, .int (Int32.ofNat o), .ref d, .int (Int32.ofNat q), .int (Int32.ofNat len)] 7)) (s₁.setTop (mkF m 3 #[.val (.ref b), .val (.int (Int32.ofNat o)), .val (.ref d), .val (.int (Int32.ofNat q)), .val (.int (Int32.ofNat len)), .val (.int 0), .unset] [])) := c1.trans (by
    refine iconstV X0.here hexec rfl 0 (hb hbytes d0) (by decide) ?_
    refine XS.istore X0.here hexec rfl (hb hbytes d1) rfl rfl ?_
    exact Steps.refl _)
  have loop : ∀ (r i : Nat), i + r = len → ∀ (z : Slot), (z = .unset ∨ ∃ w, z = .val w ∧ w.category = 1) → ∀ (Tl : State) (Bk : Cell), Stand p l e { frames := 0, locals := 0, cells := 0, slots := 0 } s m #[.ref b, .int (Int32.ofNat o), .ref d, .int (Int32.ofNat q), .int (Int32.ofNat len)] below meth c Tl ([] ++ copyLocs d q i) 0 0 → Put d Bk s₁ Tl → Laid B Bk q (q + i) (fun j => Value.int (lo8 (cv A (o + (j - q))))) →
      Steps p.tables e below (s₁.setTop (entryFrame m #[.ref b, .int (Int32.ofNat o), .ref d, .int (Int32.ofNat q), .int (Int32.ofNat len)] 7)) (Tl.setTop (mkF m 3 #[.val (.ref b), .val (.int (Int32.ofNat (o + i))), .val (.ref d), .val (.int (Int32.ofNat (q + i))), .val (.int (Int32.ofNat len)), .val (.int (Int32.ofNat i)), z] [])) → ∃ (T' : State) (B' : Cell) (z' : Slot), Stand p l e { frames := 0, locals := 0, cells := 0, slots := 0 } s m #[.ref b, .int (Int32.ofNat o), .ref d, .int (Int32.ofNat q), .int (Int32.ofNat len)] below meth c T' ([] ++ copyLocs d q len) 0 0 ∧ Put d B' s₁ T' ∧ Laid B B' q (q + len) (fun j => Value.int (lo8 (cv A (o + (j - q))))) ∧
      Steps p.tables e below (s₁.setTop (entryFrame m #[.ref b, .int (Int32.ofNat o), .ref d, .int (Int32.ofNat q), .int (Int32.ofNat len)] 7)) (T'.setTop (mkF m 3 #[.val (.ref b), .val (.int (Int32.ofNat (o + len))), .val (.ref d), .val (.int (Int32.ofNat (q + len))), .val (.int (Int32.ofNat len)), .val (.int (Int32.ofNat len)), z'] [])) := by
    intro r
    induction r with
    | zero =>
      intro i hi z hz Tl Bk Xl pl fl cl
      have hil : i = len := by omega
      rw [hil] at Xl fl cl
      exact ⟨Tl, Bk, z, Xl, pl, fl, cl⟩
    | succ r ih =>
      intro i hi z hz Tl Bk Xl pl fl cl
      have all := X0.warmed.alike.symm.trans Xl.warmed.alike
      have hAl := hA0.keep all (pl.other hne hA0.1)
      have hBk := hB0.like all pl.1 fl.1 fl.2.1 fl.2.2.1
      have hlt : q + i < Bk.slots.size := by rw [fl.2.2.1]; omega
      have c3 : Steps p.tables e below (s₁.setTop (entryFrame m #[.ref b, .int (Int32.ofNat o), .ref d, .int (Int32.ofNat q), .int (Int32.ofNat len)] 7)) (Tl.setTop (mkF m 12 #[.val (.ref b), .val (.int (Int32.ofNat (o + i))), .val (.ref d), .val (.int (Int32.ofNat (q + i))), .val (.int (Int32.ofNat len)), .val (.int (Int32.ofNat i)), z] [.int (Int32.ofNat (o + i)), .ref b])) := cl.trans (by
        refine XS.iload Xl.here hexec rfl (hb hbytes d3) rfl ?_
        refine XS.iload Xl.here hexec rfl (hb hbytes d5) rfl ?_
        refine XS.icmpNo Xl.here hexec rfl (hb hbytes d7) rfl (ii_ge_f (lt32 (by omega) (by omega))) ?_
        refine XS.aloadN Xl.here hexec rfl (hb hbytes d10) rfl rfl ?_
        refine XS.iloadN Xl.here hexec rfl (hb hbytes d11) rfl ?_
        exact Steps.refl _)
      have c4 : Steps p.tables e below (s₁.setTop (entryFrame m #[.ref b, .int (Int32.ofNat o), .ref d, .int (Int32.ofNat q), .int (Int32.ofNat len)] 7)) (Tl.setTop (mkF m 13 #[.val (.ref b), .val (.int (Int32.ofNat (o + i))), .val (.ref d), .val (.int (Int32.ofNat (q + i))), .val (.int (Int32.ofNat len)), .val (.int (Int32.ofNat i)), z] [.int (cv A (o + i))])) := c3.trans (by
        refine Xl.aget hexec hAl rfl (hA.get (i := o + i) (by omega)) rfl rfl (hb hbytes d12) ?_
        exact Steps.refl _)
      have c5 : Steps p.tables e below (s₁.setTop (entryFrame m #[.ref b, .int (Int32.ofNat o), .ref d, .int (Int32.ofNat q), .int (Int32.ofNat len)] 7)) (Tl.setTop (mkF m 15 #[.val (.ref b), .val (.int (Int32.ofNat (o + i))), .val (.ref d), .val (.int (Int32.ofNat (q + i))), .val (.int (Int32.ofNat len)), .val (.int (Int32.ofNat i)), .val (.int (cv A (o + i)))] [])) := c4.trans (by
        refine XS.istoreS Xl.here hexec rfl (hb hbytes d13) rfl rfl hz ?_
        exact Steps.refl _)
      have c6 : Steps p.tables e below (s₁.setTop (entryFrame m #[.ref b, .int (Int32.ofNat o), .ref d, .int (Int32.ofNat q), .int (Int32.ofNat len)] 7)) (Tl.setTop (mkF m 31 #[.val (.ref b), .val (.int (Int32.ofNat (o + i))), .val (.ref d), .val (.int (Int32.ofNat (q + i))), .val (.int (Int32.ofNat len)), .val (.int (Int32.ofNat i)), .val (.int (cv A (o + i)))] [.int (lo8 (cv A (o + i))), .int (Int32.ofNat (q + i)), .ref d])) := c5.trans (by
        refine XS.iload Xl.here hexec rfl (hb hbytes d15) rfl ?_
        refine sipushV Xl.here hexec rfl 255 (hb hbytes d17) (by decide) ?_
        refine XS.icmpYes Xl.here hexec rfl (pc0 := 20) rfl (hb hbytes d20) rfl (ii_le_t (hp i (by omega))) (by decide) rfl ?_
        refine XS.aloadN Xl.here hexec rfl (hb hbytes d26) rfl rfl ?_
        refine XS.iloadN Xl.here hexec rfl (hb hbytes d27) rfl ?_
        refine XS.iload Xl.here hexec rfl (hb hbytes d28) rfl ?_
        refine i2b Xl.here hexec rfl (hb hbytes d30) rfl ?_
        exact Steps.refl _)
      obtain ⟨T7, X7, p7, st7⟩ := Xl.aput hexec hBk rfl hlt rfl (fits_lo8 (cv A (o + i))) (g := (mkF m 31 #[.val (.ref b), .val (.int (Int32.ofNat (o + i))), .val (.ref d), .val (.int (Int32.ofNat (q + i))), .val (.int (Int32.ofNat len)), .val (.int (Int32.ofNat i)), .val (.int (cv A (o + i)))] [.int (lo8 (cv A (o + i))), .int (Int32.ofNat (q + i)), .ref d])) rfl (rest := []) rfl (hb hbytes d31)
      have c8 : Steps p.tables e below (s₁.setTop (entryFrame m #[.ref b, .int (Int32.ofNat o), .ref d, .int (Int32.ofNat q), .int (Int32.ofNat len)] 7)) (T7.setTop (mkF m 32 #[.val (.ref b), .val (.int (Int32.ofNat (o + i))), .val (.ref d), .val (.int (Int32.ofNat (q + i))), .val (.int (Int32.ofNat len)), .val (.int (Int32.ofNat i)), .val (.int (cv A (o + i)))] [])) := c6.trans (st7 _ (Steps.refl _))
      have c9 : Steps p.tables e below (s₁.setTop (entryFrame m #[.ref b, .int (Int32.ofNat o), .ref d, .int (Int32.ofNat q), .int (Int32.ofNat len)] 7)) (T7.setTop (mkF m 3 #[.val (.ref b), .val (.int (Int32.ofNat (o + i) + 1)), .val (.ref d), .val (.int (Int32.ofNat (q + i) + 1)), .val (.int (Int32.ofNat len)), .val (.int (Int32.ofNat i + 1)), .val (.int (cv A (o + i)))] [])) := c8.trans (by
        refine iincV X7.here hexec rfl 1 (hb hbytes d32) (by decide) rfl rfl ?_
        refine iincV X7.here hexec rfl 1 (hb hbytes d35) (by decide) rfl rfl ?_
        refine iincV X7.here hexec rfl 1 (hb hbytes d38) (by decide) rfl rfl ?_
        refine XS.goto X7.here hexec rfl (pc0 := 41) rfl (hb hbytes d41) (by decide) rfl ?_
        exact Steps.refl _)
      have c10 : Steps p.tables e below (s₁.setTop (entryFrame m #[.ref b, .int (Int32.ofNat o), .ref d, .int (Int32.ofNat q), .int (Int32.ofNat len)] 7)) (T7.setTop (mkF m 3 #[.val (.ref b), .val (.int (Int32.ofNat (o + (i + 1)))), .val (.ref d), .val (.int (Int32.ofNat (q + (i + 1)))), .val (.int (Int32.ofNat len)), .val (.int (Int32.ofNat (i + 1))), .val (.int (cv A (o + i)))] [])) := by
        have := c9
        rw [succ32, succ32, succ32] at this
        exact this
      exact ih (i + 1) (by omega) _ (Or.inr ⟨_, rfl, rfl⟩) T7 _ (by rw [copyLocs_step, ← List.append_assoc]; exact X7) (pl.trans p7) (fl.step (by omega) hlt (by simp)) c10
  obtain ⟨T9, B9, z9, X9, p9, f9, g9⟩ := loop len 0 (by omega) .unset (Or.inl rfl) s₁ B (by simpa [copyLocs] using X0) ⟨hB0.1, fun _ _ => rfl, rfl⟩ (Laid.zero _ _ _) c2
  have c11 : Steps p.tables e below (s₁.setTop (entryFrame m #[.ref b, .int (Int32.ofNat o), .ref d, .int (Int32.ofNat q), .int (Int32.ofNat len)] 7)) (T9.setTop (mkF m 46 #[.val (.ref b), .val (.int (Int32.ofNat (o + len))), .val (.ref d), .val (.int (Int32.ofNat (q + len))), .val (.int (Int32.ofNat len)), .val (.int (Int32.ofNat len)), z9] [.int (Int32.ofNat len)])) := g9.trans (by
    refine XS.iload X9.here hexec rfl (hb hbytes d3) rfl ?_
    refine XS.iload X9.here hexec rfl (hb hbytes d5) rfl ?_
    refine XS.icmpYes X9.here hexec rfl (pc0 := 7) rfl (hb hbytes d7) rfl (ii_ge_t (nlt32 (by omega) (Nat.le_refl _))) (by decide) rfl ?_
    refine XS.iload X9.here hexec rfl (hb hbytes d44) rfl ?_
    exact Steps.refl _)
  exact ⟨T9, some (.int (Int32.ofNat len)), _, _, _, X9, by simp, rfl, rfl, (fun h => by cases h), ⟨rfl, B9, p9.from hh0, f9⟩, fun fs hl => c11.trans (X9.ireturnOut hexec hret rfl (Or.inl rfl) (hb hbytes d46) hl)⟩
end Cmp5
namespace Cmp3
def yN : MethodName := ⟨"java/lang/StringUTF16", "compress", "([CII)[B"⟩
abbrev yB : ByteArray := jdk_52_method_16_code
theorem d0 : decode yB 0 = .ok (.iload_n 2, 1) := by decide +kernel
theorem d1 : decode yB 1 = .ok (.newarray .byte, 2) := by decide +kernel
theorem d3 : decode yB 3 = .ok (.astore_n 3, 1) := by decide +kernel
theorem d4 : decode yB 4 = .ok (.aload_n 0, 1) := by decide +kernel
theorem d5 : decode yB 5 = .ok (.iload_n 1, 1) := by decide +kernel
theorem d6 : decode yB 6 = .ok (.aload_n 3, 1) := by decide +kernel
theorem d7 : decode yB 7 = .ok (.iconst 0, 1) := by decide +kernel
theorem d8 : decode yB 8 = .ok (.iload_n 2, 1) := by decide +kernel
theorem d9 : decode yB 9 = .ok (.invokestatic 115, 3) := by decide +kernel
theorem d12 : decode yB 12 = .ok (.istore 4, 2) := by decide +kernel
theorem d14 : decode yB 14 = .ok (.iload 4, 2) := by decide +kernel
theorem d16 : decode yB 16 = .ok (.iload_n 2, 1) := by decide +kernel
theorem d17 : decode yB 17 = .ok (.if_icmp (.eq) 40, 3) := by decide +kernel
theorem d57 : decode yB 57 = .ok (.aload_n 3, 1) := by decide +kernel
theorem d58 : decode yB 58 = .ok (.areturn, 1) := by decide +kernel
def site : List Cond := [.arrayClass .byte, Cmp5.tab] ++ staticW U16 115 Cmp5.yN
def tab : Cond := tabOf yN yB 6 (some (.array .byte)) site
def P (b : Addr) (A : Cell) (o len : Nat) (args : Array Value) (s : State) : Prop := args = #[.ref b, .int (Int32.ofNat o), .int (Int32.ofNat len)] ∧ Ch b A s ∧ o + len ≤ A.slots.size ∧ len ≤ 536870912 ∧ ∀ i, i < len → ¬ 255 < cv A (o + i)
def E (b : Addr) (A : Cell) (o len : Nat) (r : Option Value) (s u : State) : Prop := NewArr .byte "[B" len (fun j => .int (lo8 (cv A (o + j)))) r s u ∧ u.heap.size = s.heap.size + 1
/-- no char of the range above 255: a new byte[] of their low bytes -/
theorem law (l : Launch) (b : Addr) (A : Cell) (o len : Nat) : Law l yN 3 3 1 18 yB 6 (some (.array .byte)) site (P b A o len) (E b A o len) [] 1 len := by
  refine Law.of_walk (plainFor_of_name (by decide +kernel)) (by decide +kernel) (by decide +kernel) (by decide) (fun _ _ h => by rw [h.1]; rfl) (fun _ U U' hal hh h => ⟨h.1, h.2.1.mv hal hh, h.2.2⟩) (fun r U U' V V' h1 hal h2 h => ⟨NewArr.mv r U U' V V' h1 hal h2 h.1, by rw [h1, h2]; exact h.2⟩) ?_
  intro p e s m args below meth c s₁ X0 hexec hbytes hml hret hlk hnm hown hh0 W hP
  obtain ⟨rfl, hA, l1, l2, hp⟩ := hP
  have a31 := hA.1.2.2.2
  have c1 : Steps p.tables e below (s₁.setTop (entryFrame m #[.ref b, .int (Int32.ofNat o), .int (Int32.ofNat len)] 6)) (s₁.setTop (mkF m 0 #[.val (.ref b), .val (.int (Int32.ofNat o)), .val (.int (Int32.ofNat len)), .unset, .unset, .unset] [])) := entry rfl
  have c2 : Steps p.tables e below (s₁.setTop (entryFrame m #[.ref b, .int (Int32.ofNat o), .int (Int32.ofNat len)] 6)) (s₁.setTop (mkF m 1 #[.val (.ref b), .val (.int (Int32.ofNat o)), .val (.int (Int32.ofNat len)), .unset, .unset, .unset] [.int (Int32.ofNat len)])) := c1.trans (by
    refine XS.iloadN X0.here hexec rfl (hb hbytes d0) rfl ?_
    exact Steps.refl _)
  obtain ⟨T3, B3, X3, ba3, bs3, bv3, bh3, bf3, st3⟩ := X0.anew hexec (atype := .byte) (wk W (.arrayClass .byte)) rfl (by show len * 1 ≤ _; omega) (by omega) (g := (mkF m 1 #[.val (.ref b), .val (.int (Int32.ofNat o)), .val (.int (Int32.ofNat len)), .unset, .unset, .unset] [.int (Int32.ofNat len)])) rfl (hb hbytes d1) (rest := []) rfl (Nat.le_refl _) (by show 0 + len ≤ len; omega)
  rw [hh0] at ba3 st3
  have kp3 : XT.Kept s T3 := (XT.Kept.of_eq hh0).push bh3
  have hA3 := hA.keep X3.warmed.alike (kp3 _ _ hA.1.1)
  have hne : b ≠ s.heap.size := hA.1.ne
  have c4 : Steps p.tables e below (s₁.setTop (entryFrame m #[.ref b, .int (Int32.ofNat o), .int (Int32.ofNat len)] 6)) (T3.setTop (mkF m 3 #[.val (.ref b), .val (.int (Int32.ofNat o)), .val (.int (Int32.ofNat len)), .unset, .unset, .unset] [.ref s.heap.size])) := c2.trans (st3 _ (Steps.refl _))
  have c5 : Steps p.tables e below (s₁.setTop (entryFrame m #[.ref b, .int (Int32.ofNat o), .int (Int32.ofNat len)] 6)) (T3.setTop (mkF m 9 #[.val (.ref b), .val (.int (Int32.ofNat o)), .val (.int (Int32.ofNat len)), .val (.ref s.heap.size), .unset, .unset] [.int (Int32.ofNat len), .int 0, .ref s.heap.size, .int (Int32.ofNat o), .ref b])) := c4.trans (by
    refine XS.astoreN X3.here hexec rfl (hb hbytes d3) rfl rfl rfl ?_
    refine XS.aloadN X3.here hexec rfl (hb hbytes d4) rfl rfl ?_
    refine XS.iloadN X3.here hexec rfl (hb hbytes d5) rfl ?_
    refine XS.aloadN X3.here hexec rfl (hb hbytes d6) rfl rfl ?_
    refine iconstV X3.here hexec rfl 0 (hb hbytes d7) (by decide) ?_
    refine XS.iloadN X3.here hexec rfl (hb hbytes d8) rfl ?_
    exact Steps.refl _)
  obtain ⟨v6, T6, X6, E6, g6⟩ := X3.callS hexec (Cmp5.law l b A s.heap.size B3 o 0 len) hown (wks W (staticW U16 115 Cmp5.yN)) (wk W Cmp5.tab) (W := 0) (Nat.le_of_ble_eq_true rfl) (Nat.le_of_ble_eq_true rfl) (Nat.le_refl _) (by show 0 + len + 0 ≤ len; omega) (g := (mkF m 9 #[.val (.ref b), .val (.int (Int32.ofNat o)), .val (.int (Int32.ofNat len)), .val (.ref s.heap.size), .unset, .unset] [.int (Int32.ofNat len), .int (Int32.ofNat 0), .ref s.heap.size, .int (Int32.ofNat o), .ref b])) rfl (by rw [hml]; rfl) c5 (argsL := [.ref b, .int (Int32.ofNat o), .ref s.heap.size, .int (Int32.ofNat 0), .int (Int32.ofNat len)]) (rest := []) rfl rfl (by show 2 * 0 + 0 ≤ _; decide) (hb hbytes d9) (⟨rfl, hA3, ba3, hne, l1, by rw [bs3]; simp, hp⟩)
  obtain ⟨rfl, B6, p6, f6⟩ := E6
  have c7 : Steps p.tables e below (s₁.setTop (entryFrame m #[.ref b, .int (Int32.ofNat o), .int (Int32.ofNat len)] 6)) (T6.setTop (mkF m 12 #[.val (.ref b), .val (.int (Int32.ofNat o)), .val (.int (Int32.ofNat len)), .val (.ref s.heap.size), .unset, .unset] [.int (Int32.ofNat len)])) := g6
  have c8 : Steps p.tables e below (s₁.setTop (entryFrame m #[.ref b, .int (Int32.ofNat o), .int (Int32.ofNat len)] 6)) (T6.setTop (mkF m 58 #[.val (.ref b), .val (.int (Int32.ofNat o)), .val (.int (Int32.ofNat len)), .val (.ref s.heap.size), .val (.int (Int32.ofNat len)), .unset] [.ref s.heap.size])) := c7.trans (by
    refine XS.istore X6.here hexec rfl (hb hbytes d12) rfl rfl ?_
    refine XS.iload X6.here hexec rfl (hb hbytes d14) rfl ?_
    refine XS.iloadN X6.here hexec rfl (hb hbytes d16) rfl ?_
    refine XS.icmpYes X6.here hexec rfl (pc0 := 17) rfl (hb hbytes d17) rfl (ii_eq_t rfl) (by decide) rfl ?_
    refine XS.aloadN X6.here hexec rfl (hb hbytes d57) rfl rfl ?_
    exact Steps.refl _)
  have X8 := X6.wide (L' := []) (cells' := 1) (slots' := len) (fun x hx hlt => by
    simp only [List.nil_append, copyLocs, List.mem_map, List.mem_range] at hx
    obtain ⟨i, -, rfl⟩ := hx
    exact absurd hlt (Nat.lt_irrefl _)) (Nat.le_refl _) (by omega)
  exact ⟨T6, some (.ref s.heap.size), _, _, _, X8, rfl, rfl, rfl, (fun h => by cases h), ⟨⟨rfl, B6, ba3.like (X3.warmed.alike.symm.trans X6.warmed.alike) p6.1 f6.1 f6.2.1 f6.2.2.1, f6.2.1.trans bv3, by rw [X6.warmed.alike.findClass, f6.1]; exact bf3, by rw [f6.2.2.1, bs3]; simp, fun j hj => by rw [f6.2.2.2 j, if_pos (by omega)]; rfl, kp3.put p6 (Nat.le_refl _)⟩, by rw [p6.2.2, bh3, hh0]; simp⟩, fun fs hl => c8.trans (X8.areturnOut hexec rfl hret rfl (hb hbytes d58) hl)⟩
end Cmp3
namespace CodL
def yN : MethodName := ⟨"java/lang/StringUTF16", "coderFromArrayLen", "([BI)B"⟩
abbrev yB : ByteArray := jdk_52_method_15_code
theorem d0 : decode yB 0 = .ok (.iload_n 1, 1) := by decide +kernel
theorem d1 : decode yB 1 = .ok (.aload_n 0, 1) := by decide +kernel
theorem d2 : decode yB 2 = .ok (.arraylength, 1) := by decide +kernel
theorem d3 : decode yB 3 = .ok (.isub, 1) := by decide +kernel
theorem d4 : decode yB 4 = .ok (.bipush 31, 2) := by decide +kernel
theorem d6 : decode yB 6 = .ok (.iushr, 1) := by decide +kernel
theorem d7 : decode yB 7 = .ok (.i2b, 1) := by decide +kernel
theorem d8 : decode yB 8 = .ok (.ireturn, 1) := by decide +kernel
def site : List Cond := []
def tab : Cond := tabOf yN yB 2 (some .byte) site
def P (d : Addr) (B : Cell) (args : Array Value) (s : State) : Prop := args = #[.ref d, .int (Int32.ofNat B.slots.size)] ∧ Arr .byte d B s
def E (r : Option Value) (s u : State) : Prop := XT.PureE (some (.int 0)) r s u
/-- an array as long as the number of chars: LATIN1 -/
theorem law (l : Launch) (d : Addr) (B : Cell) : Law l yN 2 2 0 0 yB 2 (some .byte) site (P d B) E [] 0 0 := by
  refine Law.of_walk (plainFor_of_name (by decide +kernel)) (by decide +kernel) (by decide +kernel) (by decide) (fun _ _ h => by rw [h.1]; rfl) (fun _ U U' hal hh h => ⟨h.1, h.2.mv hal hh⟩) (fun r U U' V V' h1 hal h2 h => XT.PureE.mv r U U' V V' h1 hal h2 h) ?_
  intro p e s m args below meth c s₁ X0 hexec hbytes hml hret hlk hnm hown hh0 W hP
  obtain ⟨rfl, hB⟩ := hP
  have hB0 := hB.mv X0.warmed.alike hh0
  have c1 : Steps p.tables e below (s₁.setTop (entryFrame m #[.ref d, .int (Int32.ofNat B.slots.size)] 2)) (s₁.setTop (mkF m 0 #[.val (.ref d), .val (.int (Int32.ofNat B.slots.size))] [])) := entry rfl
  have c2 : Steps p.tables e below (s₁.setTop (entryFrame m #[.ref d, .int (Int32.ofNat B.slots.size)] 2)) (s₁.setTop (mkF m 2 #[.val (.ref d), .val (.int (Int32.ofNat B.slots.size))] [.ref d, .int (Int32.ofNat B.slots.size)])) := c1.trans (by
    refine XS.iloadN X0.here hexec rfl (hb hbytes d0) rfl ?_
    refine XS.aloadN X0.here hexec rfl (hb hbytes d1) rfl rfl ?_
    exact Steps.refl _)
  have c3 : Steps p.tables e below (s₁.setTop (entryFrame m #[.ref d, .int (Int32.ofNat B.slots.size)] 2)) (s₁.setTop (mkF m 8 #[.val (.ref d), .val (.int (Int32.ofNat B.slots.size))] [.int (lo8 (ushr (Int32.ofNat B.slots.size - Int32.ofNat B.slots.size) 31))])) := c2.trans (by
    refine X0.alen hexec hB0 rfl rfl (hb hbytes d2) ?_
    refine XS.isub X0.here hexec rfl (hb hbytes d3) rfl ?_
    refine bipushV X0.here hexec rfl 31 (hb hbytes d4) (by decide) ?_
    refine iushr X0.here hexec rfl (hb hbytes d6) rfl ?_
    refine i2b X0.here hexec rfl (hb hbytes d7) rfl ?_
    exact Steps.refl _)
  have e0 : lo8 (ushr (Int32.ofNat B.slots.size - Int32.ofNat B.slots.size) 31) = 0 := by rw [Int32.sub_self]; decide
  rw [e0] at c3
  exact ⟨s₁, some (.int 0), _, _, _, X0, rfl, rfl, rfl, (fun h => by cases h), ⟨rfl, hh0⟩, fun fs hl => c3.trans (X0.ireturnOut hexec hret rfl (Or.inr (Or.inr (Or.inl rfl))) (hb hbytes d8) hl)⟩
end CodL
/-- the String at a is Latin-1 over a new byte[] (the heap's one new cell): the low bytes of the len chars of A from o on; every cell but a is kept -/
def Got (a : Addr) (D : Cell) (fV fC : Field) (A : Cell) (o len : Nat) (r : Option Value) (s u : State) : Prop := r = none ∧ ∃ D' V : Cell, Blank "java/lang/String" a D' u ∧ Same D D' [fV.slot, fC.slot] ∧ D'.slots[fV.slot]? = some (.ref s.heap.size) ∧ D'.slots[fC.slot]? = some (.int 0) ∧ Arr .byte s.heap.size V u ∧ V.vm = .none ∧ u.vm.findClass "[B" = some V.cls ∧ V.slots.size = len ∧ (∀ j, j < len → V.slots[j]? = some (.int (lo8 (cv A (o + j))))) ∧ (∀ (y : Addr) (c : Cell), y ≠ a → s.heap[y]? = some c → u.heap[y]? = some c) ∧ u.heap.size = s.heap.size + 1
theorem Got.mv {a : Addr} {D A : Cell} {fV fC : Field} {o len : Nat} : ∀ r (U U' V V' : State), U'.heap = U.heap → V.vm.Alike V'.vm → V'.heap = V.heap → Got a D fV fC A o len r U V → Got a D fV fC A o len r U' V' :=
  fun r U U' V V' h1 hal h2 ⟨e0, D', X, a1, a2, a3, a4, a5, a6, a7, a8, a9, a10, a11⟩ => ⟨e0, D', X, a1.mv hal h2, a2, by rw [h1]; exact a3, a4, by rw [h1]; exact a5.mv hal h2, a6, by rw [hal.findClass]; exact a7, a8, a9, by rw [h1, h2]; exact a10, by rw [h1, h2]; exact a11⟩
namespace New4
def yN : MethodName := ⟨"java/lang/String", "<init>", "([CIILjava/lang/Void;)V"⟩
abbrev yB : ByteArray := jdk_42_method_149_code
theorem d0 : decode yB 0 = .ok (.aload_n 0, 1) := by decide +kernel
theorem d1 : decode yB 1 = .ok (.invokespecial 1, 3) := by decide +kernel
theorem d4 : decode yB 4 = .ok (.iload_n 3, 1) := by decide +kernel
theorem d5 : decode yB 5 = .ok (.ifCond (.ne) 22, 3) := by decide +kernel
theorem d27 : decode yB 27 = .ok (.getstatic 38, 3) := by decide +kernel
theorem d30 : decode yB 30 = .ok (.ifCond (.eq) 28, 3) := by decide +kernel
theorem d33 : decode yB 33 = .ok (.aload_n 1, 1) := by decide +kernel
theorem d34 : decode yB 34 = .ok (.iload_n 2, 1) := by decide +kernel
theorem d35 : decode yB 35 = .ok (.iload_n 3, 1) := by decide +kernel
theorem d36 : decode yB 36 = .ok (.invokestatic 177, 3) := by decide +kernel
theorem d39 : decode yB 39 = .ok (.astore 5, 2) := by decide +kernel
theorem d41 : decode yB 41 = .ok (.aload_n 0, 1) := by decide +kernel
theorem d42 : decode yB 42 = .ok (.aload 5, 2) := by decide +kernel
theorem d44 : decode yB 44 = .ok (.iload_n 3, 1) := by decide +kernel
theorem d45 : decode yB 45 = .ok (.invokestatic 47, 3) := by decide +kernel
theorem d48 : decode yB 48 = .ok (.putfield 15, 3) := by decide +kernel
theorem d51 : decode yB 51 = .ok (.aload_n 0, 1) := by decide +kernel
theorem d52 : decode yB 52 = .ok (.aload 5, 2) := by decide +kernel
theorem d54 : decode yB 54 = .ok (.putfield 9, 3) := by decide +kernel
theorem d57 : decode yB 57 = .ok (.return_, 1) := by decide +kernel
def site : List Cond := [.fieldLink "java/lang/String" 38 "java/lang/String" "COMPACT_STRINGS" "Z", Cmp3.tab, CodL.tab, .laysFinal "java/lang/String" "java/lang/String" "value" "[B", .fieldLink "java/lang/String" 9 "java/lang/String" "value" "[B", .laysFinal "java/lang/String" "java/lang/String" "coder" "B", .fieldLink "java/lang/String" 15 "java/lang/String" "coder" "B"] ++ objW "java/lang/String" 1 ++ staticW "java/lang/String" 177 Cmp3.yN ++ staticW "java/lang/String" 47 CodL.yN
def tab : Cond := tabOf yN yB 6 none site
def P (a : Addr) (D : Cell) (fV fC : Field) (b : Addr) (A : Cell) (z : Int32) (o len : Nat) (args : Array Value) (s : State) : Prop := args = #[.ref a, .ref b, .int (Int32.ofNat o), .int (Int32.ofNat len), .null] ∧ Blank "java/lang/String" a D s ∧ Found "java/lang/String" "value" "[B" fV s ∧ Found "java/lang/String" "coder" "B" fC s ∧ Ch b A s ∧ StaticIs s "java/lang/String" "COMPACT_STRINGS" "Z" (.int z) ∧ ¬ z = 0 ∧ 0 < len ∧ o + len ≤ A.slots.size ∧ len ≤ 536870912 ∧ ∀ i, i < len → ¬ 255 < cv A (o + i)
def E (a : Addr) (D : Cell) (fV fC : Field) (A : Cell) (o len : Nat) (r : Option Value) (s u : State) : Prop := Got a D fV fC A o len r s u
/-- len > 0, no char of the range above 255: a Latin-1 String of their low bytes -/
theorem law (l : Launch) (a : Addr) (D : Cell) (fV fC : Field) (b : Addr) (A : Cell) (z : Int32) (o len : Nat) : Law l yN 5 4 2 35 yB 6 none site (P a D fV fC b A z o len) (E a D fV fC A o len) [⟨a, fC.slot⟩, ⟨a, fV.slot⟩] 1 len := by
  refine Law.of_walk (plainFor_of_name (by decide +kernel)) (by decide +kernel) (by decide +kernel) (by decide) (fun _ _ h => by rw [h.1]; rfl) (fun _ U U' hal hh h => ⟨h.1, h.2.1.mv hal hh, h.2.2.1.al hal, h.2.2.2.1.al hal, h.2.2.2.2.1.mv hal hh, h.2.2.2.2.2.1.there hal hh, h.2.2.2.2.2.2⟩) (fun r U U' V V' h1 hal h2 h => Got.mv r U U' V V' h1 hal h2 h) ?_
  intro p e s m args below meth c s₁ X0 hexec hbytes hml hret hlk hnm hown hh0 W hP
  obtain ⟨rfl, hB, f1, f2, hA, s1, hz, l0, l1, l2, hp⟩ := hP
  have a31 := hA.1.2.2.2
  have c1 : Steps p.tables e below (s₁.setTop (entryFrame m #[.ref a, .ref b, .int (Int32.ofNat o), .int (Int32.ofNat len), .null] 6)) (s₁.setTop (mkF m 0 #[.val (.ref a), .val (.ref b), .val (.int (Int32.ofNat o)), .val (.int (Int32.ofNat len)), .val .null, .unset] [])) := entry rfl
  have c2 : Steps p.tables e below (s₁.setTop (entryFrame m #[.ref a, .ref b, .int (Int32.ofNat o), .int (Int32.ofNat len), .null] 6)) (s₁.setTop (mkF m 1 #[.val (.ref a), .val (.ref b), .val (.int (Int32.ofNat o)), .val (.int (Int32.ofNat len)), .val .null, .unset] [.ref a])) := c1.trans (by
    refine XS.aloadN X0.here hexec rfl (hb hbytes d0) rfl rfl ?_
    exact Steps.refl _)
  obtain ⟨T3, X3, q3, st3⟩ := X0.oinit hexec hown (wks W (objW "java/lang/String" 1)) (g := (mkF m 1 #[.val (.ref a), .val (.ref b), .val (.int (Int32.ofNat o)), .val (.int (Int32.ofNat len)), .val .null, .unset] [.ref a])) rfl (by rw [hml]; rfl) (rest := []) rfl (hb hbytes d1) (W := 0) (by show 2 * 0 + 0 ≤ _; decide) (Nat.le_of_ble_eq_true rfl) (Nat.le_of_ble_eq_true rfl)
  have hh3 := q3.trans hh0
  have c4 : Steps p.tables e below (s₁.setTop (entryFrame m #[.ref a, .ref b, .int (Int32.ofNat o), .int (Int32.ofNat len), .null] 6)) (T3.setTop (mkF m 27 #[.val (.ref a), .val (.ref b), .val (.int (Int32.ofNat o)), .val (.int (Int32.ofNat len)), .val .null, .unset] [])) := (c2.trans (st3 _ (Steps.refl _))).trans (by
    refine XS.iloadN X3.here hexec rfl (hb hbytes d4) rfl ?_
    refine XS.ifYes X3.here hexec rfl (pc0 := 5) rfl (hb hbytes d5) rfl (i0_ne_t (nz32 (by omega) l0)) (by decide) rfl ?_
    exact Steps.refl _)
  obtain ⟨T5, X5, q5, st5⟩ := X3.sget hexec hown (wk W (.fieldLink "java/lang/String" 38 "java/lang/String" "COMPACT_STRINGS" "Z")) s1 (fun _ _ h => by rw [hh3]; exact h) (g := (mkF m 27 #[.val (.ref a), .val (.ref b), .val (.int (Int32.ofNat o)), .val (.int (Int32.ofNat len)), .val .null, .unset] [])) rfl (hb hbytes d27)
  have hh5 := q5.trans hh3
  have c6 : Steps p.tables e below (s₁.setTop (entryFrame m #[.ref a, .ref b, .int (Int32.ofNat o), .int (Int32.ofNat len), .null] 6)) (T5.setTop (mkF m 30 #[.val (.ref a), .val (.ref b), .val (.int (Int32.ofNat o)), .val (.int (Int32.ofNat len)), .val .null, .unset] [.int z])) := c4.trans (st5 _ (Steps.refl _))
  have c7 : Steps p.tables e below (s₁.setTop (entryFrame m #[.ref a, .ref b, .int (Int32.ofNat o), .int (Int32.ofNat len), .null] 6)) (T5.setTop (mkF m 36 #[.val (.ref a), .val (.ref b), .val (.int (Int32.ofNat o)), .val (.int (Int32.ofNat len)), .val .null, .unset] [.int (Int32.ofNat len), .int (Int32.ofNat o), .ref b])) := c6.trans (by
    refine XS.ifNo X5.here hexec rfl (hb hbytes d30) rfl (i0_eq_f hz) ?_
    refine XS.aloadN X5.here hexec rfl (hb hbytes d33) rfl rfl ?_
    refine XS.iloadN X5.here hexec rfl (hb hbytes d34) rfl ?_
    refine XS.iloadN X5.here hexec rfl (hb hbytes d35) rfl ?_
    exact Steps.refl _)
  obtain ⟨v8, T8, X8, E8, g8⟩ := X5.callS hexec (Cmp3.law l b A o len) hown (wks W (staticW "java/lang/String" 177 Cmp3.yN)) (wk W Cmp3.tab) (W := 0) (Nat.le_of_ble_eq_true rfl) (Nat.le_of_ble_eq_true rfl) (Nat.le_refl _) (by show 0 + len ≤ len; omega) (g := (mkF m 36 #[.val (.ref a), .val (.ref b), .val (.int (Int32.ofNat o)), .val (.int (Int32.ofNat len)), .val .null, .unset] [.int (Int32.ofNat len), .int (Int32.ofNat o), .ref b])) rfl (by rw [hml]; rfl) c7 (argsL := [.ref b, .int (Int32.ofNat o), .int (Int32.ofNat len)]) (rest := []) rfl rfl (by show 2 * 0 + 0 ≤ _; decide) (hb hbytes d36) (⟨rfl, hA.mv X5.warmed.alike hh5, l1, l2, hp⟩)
  obtain ⟨e8, z8⟩ := E8
  obtain ⟨rfl, N, n1, n2, n3, n4, n5, n6⟩ := NewArr.mv _ T5 s _ _ hh5.symm (Vm.Alike.refl _) rfl e8
  rw [hh5] at z8
  have hB1 := hB.keep X8.warmed.alike (n6 _ _ hB.1)
  have hne : s.heap.size ≠ a := (Nat.ne_of_lt (Array.getElem?_eq_some_iff.mp hB.1).1).symm
  have c9 : Steps p.tables e below (s₁.setTop (entryFrame m #[.ref a, .ref b, .int (Int32.ofNat o), .int (Int32.ofNat len), .null] 6)) (T8.setTop (mkF m 39 #[.val (.ref a), .val (.ref b), .val (.int (Int32.ofNat o)), .val (.int (Int32.ofNat len)), .val .null, .unset] [.ref s.heap.size])) := g8
  have c10 : Steps p.tables e below (s₁.setTop (entryFrame m #[.ref a, .ref b, .int (Int32.ofNat o), .int (Int32.ofNat len), .null] 6)) (T8.setTop (mkF m 45 #[.val (.ref a), .val (.ref b), .val (.int (Int32.ofNat o)), .val (.int (Int32.ofNat len)), .val .null, .val (.ref s.heap.size)] [.int (Int32.ofNat N.slots.size), .ref s.heap.size, .ref a])) := by
    have hc : Steps p.tables e below (s₁.setTop (entryFrame m #[.ref a, .ref b, .int (Int32.ofNat o), .int (Int32.ofNat len), .null] 6)) (T8.setTop (mkF m 45 #[.val (.ref a), .val (.ref b), .val (.int (Int32.ofNat o)), .val (.int (Int32.ofNat len)), .val .null, .val (.ref s.heap.size)] [.int (Int32.ofNat len), .ref s.heap.size, .ref a])) := c9.trans (by
      refine XS.astore X8.here hexec rfl (hb hbytes d39) rfl rfl rfl ?_
      refine XS.aloadN X8.here hexec rfl (hb hbytes d41) rfl rfl ?_
      refine XS.aload X8.here hexec rfl (hb hbytes d42) rfl rfl ?_
      refine XS.iloadN X8.here hexec rfl (hb hbytes d44) rfl ?_
      exact Steps.refl _)
    rw [n4]; exact hc
  obtain ⟨v11, T11, X11, E11, g11⟩ := X8.callS hexec (CodL.law l s.heap.size N) hown (wks W (staticW "java/lang/String" 47 CodL.yN)) (wk W CodL.tab) (W := 1) (Nat.le_of_ble_eq_true rfl) (Nat.le_of_ble_eq_true rfl) (Nat.le_refl _) (by show 0 + len + 0 ≤ len; omega) (g := (mkF m 45 #[.val (.ref a), .val (.ref b), .val (.int (Int32.ofNat o)), .val (.int (Int32.ofNat len)), .val .null, .val (.ref s.heap.size)] [.int (Int32.ofNat N.slots.size), .ref s.heap.size, .ref a])) rfl (by rw [hml]; rfl) c10 (argsL := [.ref s.heap.size, .int (Int32.ofNat N.slots.size)]) (rest := [.ref a]) rfl rfl (by show 2 * 0 + (1 + 0) ≤ _; decide) (hb hbytes d45) (⟨rfl, n1⟩)
  obtain ⟨rfl, q11⟩ := E11
  have hB11 := hB1.mv (X8.warmed.alike.symm.trans X11.warmed.alike) q11
  have c12 : Steps p.tables e below (s₁.setTop (entryFrame m #[.ref a, .ref b, .int (Int32.ofNat o), .int (Int32.ofNat len), .null] 6)) (T11.setTop (mkF m 48 #[.val (.ref a), .val (.ref b), .val (.int (Int32.ofNat o)), .val (.int (Int32.ofNat len)), .val .null, .val (.ref s.heap.size)] [.int 0, .ref a])) := g11
  obtain ⟨T13, X13, p13, bl13, sl13, st13⟩ := X11.finit hexec hown (wk W (.fieldLink "java/lang/String" 15 "java/lang/String" "coder" "B")) (Or.inr ⟨_, (wk W (.laysFinal "java/lang/String" "java/lang/String" "coder" "B"))⟩) (Or.inl ⟨rfl, hnm⟩) f2 (Or.inl rfl) hB11 (t := .byte) (by decide +kernel) rfl (g := (mkF m 48 #[.val (.ref a), .val (.ref b), .val (.int (Int32.ofNat o)), .val (.int (Int32.ofNat len)), .val .null, .val (.ref s.heap.size)] [.int 0, .ref a])) rfl (rest := []) rfl (hb hbytes d48)
  have c14 : Steps p.tables e below (s₁.setTop (entryFrame m #[.ref a, .ref b, .int (Int32.ofNat o), .int (Int32.ofNat len), .null] 6)) (T13.setTop (mkF m 54 #[.val (.ref a), .val (.ref b), .val (.int (Int32.ofNat o)), .val (.int (Int32.ofNat len)), .val .null, .val (.ref s.heap.size)] [.ref s.heap.size, .ref a])) := (c12.trans (st13 _ (Steps.refl _))).trans (by
    refine XS.aloadN X13.here hexec rfl (hb hbytes d51) rfl rfl ?_
    refine XS.aload X13.here hexec rfl (hb hbytes d52) rfl rfl ?_
    exact Steps.refl _)
  obtain ⟨T15, X15, p15, bl15, sl15, st15⟩ := X13.finit hexec hown (wk W (.fieldLink "java/lang/String" 9 "java/lang/String" "value" "[B")) (Or.inr ⟨_, (wk W (.laysFinal "java/lang/String" "java/lang/String" "value" "[B"))⟩) (Or.inl ⟨rfl, hnm⟩) f1 (Or.inl rfl) bl13 (t := (.array .byte)) (by decide +kernel) rfl (g := (mkF m 54 #[.val (.ref a), .val (.ref b), .val (.int (Int32.ofNat o)), .val (.int (Int32.ofNat len)), .val .null, .val (.ref s.heap.size)] [.ref s.heap.size, .ref a])) rfl (rest := []) rfl (hb hbytes d54)
  have c16 : Steps p.tables e below (s₁.setTop (entryFrame m #[.ref a, .ref b, .int (Int32.ofNat o), .int (Int32.ofNat len), .null] 6)) (T15.setTop (mkF m 57 #[.val (.ref a), .val (.ref b), .val (.int (Int32.ofNat o)), .val (.int (Int32.ofNat len)), .val .null, .val (.ref s.heap.size)] [])) := c14.trans (st15 _ (Steps.refl _))
  have ap := apart (Or.inr ⟨_, (wk W (.laysFinal "java/lang/String" "java/lang/String" "value" "[B"))⟩) (Or.inr ⟨_, (wk W (.laysFinal "java/lang/String" "java/lang/String" "coder" "B"))⟩) f1 f2 (t₁ := .array .byte) (t₂ := .byte) (by decide +kernel) (by decide +kernel) (by decide)
  have al := X8.warmed.alike.symm.trans X15.warmed.alike
  have n7 : T11.heap[s.heap.size]? = some N := by rw [q11]; exact n1.1
  exact ⟨T15, none, _, _, _, X15, by simp, rfl, by omega, (fun _ => rfl), ⟨rfl, _, N, bl15, ((Same.refl D _).set _ (by simp)).set _ (by simp), sl15, (Cell.slots_setSlot_ne _ ap).trans sl13, n1.keep al (p15.other hne (p13.other hne n7)), n2, by rw [al.findClass]; exact n3, n4, n5, fun y c h1 h2 => p15.other h1 (p13.other h1 (by rw [q11]; exact n6 y c h2)), by rw [p15.2.2, p13.2.2, q11]; exact z8⟩, fun fs hl => c16.trans (X15.returnOut hexec hret (hb hbytes d57) hl)⟩
end New4
namespace New1
def yN : MethodName := ⟨"java/lang/String", "<init>", "([C)V"⟩
abbrev yB : ByteArray := jdk_42_method_3_code
theorem d0 : decode yB 0 = .ok (.aload_n 0, 1) := by decide +kernel
theorem d1 : decode yB 1 = .ok (.aload_n 1, 1) := by decide +kernel
theorem d2 : decode yB 2 = .ok (.iconst 0, 1) := by decide +kernel
theorem d3 : decode yB 3 = .ok (.aload_n 1, 1) := by decide +kernel
theorem d4 : decode yB 4 = .ok (.arraylength, 1) := by decide +kernel
theorem d5 : decode yB 5 = .ok (.aconst_null, 1) := by decide +kernel
theorem d6 : decode yB 6 = .ok (.invokespecial 27, 3) := by decide +kernel
theorem d9 : decode yB 9 = .ok (.return_, 1) := by decide +kernel
def site : List Cond := [New4.tab] ++ initW "java/lang/String" 27 New4.yN
def tab : Cond := tabOf yN yB 2 none site
def P (a : Addr) (D : Cell) (fV fC : Field) (b : Addr) (A : Cell) (z : Int32) (args : Array Value) (s : State) : Prop := args = #[.ref a, .ref b] ∧ Blank "java/lang/String" a D s ∧ Found "java/lang/String" "value" "[B" fV s ∧ Found "java/lang/String" "coder" "B" fC s ∧ Ch b A s ∧ StaticIs s "java/lang/String" "COMPACT_STRINGS" "Z" (.int z) ∧ ¬ z = 0 ∧ 0 < A.slots.size ∧ A.slots.size ≤ 536870912 ∧ ∀ i, i < A.slots.size → ¬ 255 < cv A i
def E (a : Addr) (D : Cell) (fV fC : Field) (A : Cell) (r : Option Value) (s u : State) : Prop := Got a D fV fC A 0 A.slots.size r s u
/-- new String(chars), not empty, no char above 255: a Latin-1 String of their low bytes -/
theorem law (l : Launch) (a : Addr) (D : Cell) (fV fC : Field) (b : Addr) (A : Cell) (z : Int32) : Law l yN 2 1 3 52 yB 2 none site (P a D fV fC b A z) (E a D fV fC A) [⟨a, fC.slot⟩, ⟨a, fV.slot⟩] 1 A.slots.size := by
  refine Law.of_walk (plainFor_of_name (by decide +kernel)) (by decide +kernel) (by decide +kernel) (by decide) (fun _ _ h => by rw [h.1]; rfl) (fun _ U U' hal hh h => ⟨h.1, h.2.1.mv hal hh, h.2.2.1.al hal, h.2.2.2.1.al hal, h.2.2.2.2.1.mv hal hh, h.2.2.2.2.2.1.there hal hh, h.2.2.2.2.2.2⟩) (fun r U U' V V' h1 hal h2 h => Got.mv r U U' V V' h1 hal h2 h) ?_
  intro p e s m args below meth c s₁ X0 hexec hbytes hml hret hlk hnm hown hh0 W hP
  obtain ⟨rfl, hB, f1, f2, hA, s1, hz, l0, l2, hp⟩ := hP
  have c1 : Steps p.tables e below (s₁.setTop (entryFrame m #[.ref a, .ref b] 2)) (s₁.setTop (mkF m 0 #[.val (.ref a), .val (.ref b)] [])) := entry rfl
  have c2 : Steps p.tables e below (s₁.setTop (entryFrame m #[.ref a, .ref b] 2)) (s₁.setTop (mkF m 6 #[.val (.ref a), .val (.ref b)] [.null, .int (Int32.ofNat A.slots.size), .int 0, .ref b, .ref a])) := c1.trans (by
    refine XS.aloadN X0.here hexec rfl (hb hbytes d0) rfl rfl ?_
    refine XS.aloadN X0.here hexec rfl (hb hbytes d1) rfl rfl ?_
    refine iconstV X0.here hexec rfl 0 (hb hbytes d2) (by decide) ?_
    refine XS.aloadN X0.here hexec rfl (hb hbytes d3) rfl rfl ?_
    refine X0.alen hexec (hA.1.mv X0.warmed.alike hh0) rfl rfl (hb hbytes d4) ?_
    refine XS.aconstNull X0.here hexec rfl (hb hbytes d5) ?_
    exact Steps.refl _)
  obtain ⟨v3, T3, X3, E3, g3⟩ := X0.callN hexec (New4.law l a D fV fC b A z 0 A.slots.size) rfl hown (wks W (initW "java/lang/String" 27 New4.yN)) (W New4.tab (by simp only [site, List.mem_cons, List.mem_append, true_or, or_true])) (W := 0) (Nat.le_of_ble_eq_true rfl) (Nat.le_of_ble_eq_true rfl) (Nat.le_refl _) (by show 0 + A.slots.size ≤ A.slots.size; omega) (g := (mkF m 6 #[.val (.ref a), .val (.ref b)] [.null, .int (Int32.ofNat A.slots.size), .int (Int32.ofNat 0), .ref b, .ref a])) rfl (by rw [hml]; rfl) c2 (argsL := [.ref b, .int (Int32.ofNat 0), .int (Int32.ofNat A.slots.size), .null]) (rest := []) rfl rfl (by show 2 * 0 + 0 ≤ _; decide) (hb hbytes d6) (⟨rfl, hB.mv X0.warmed.alike hh0, f1.al X0.warmed.alike, f2.al X0.warmed.alike, hA.mv X0.warmed.alike hh0, s1.there X0.warmed.alike hh0, hz, l0, by omega, l2, fun i hi => by rw [Nat.zero_add]; exact hp i hi⟩)
  have e0 := Got.mv _ s₁ s _ _ hh0.symm (Vm.Alike.refl _) rfl E3
  obtain rfl := e0.1
  have c4 : Steps p.tables e below (s₁.setTop (entryFrame m #[.ref a, .ref b] 2)) (T3.setTop (mkF m 9 #[.val (.ref a), .val (.ref b)] [])) := g3
  exact ⟨T3, none, _, _, _, X3, by simp, rfl, by omega, (fun _ => rfl), e0, fun fs hl => c4.trans (X3.returnOut hexec hret (hb hbytes d9) hl)⟩
theorem pays {l : Launch} {R : Room} {p : Program} {e : Env} {below : List Frame} {s : State} {sargs : Array Value} {len W : Nat} (a : Addr) (D : Cell) (fV fC : Field) (b : Addr) (A : Cell) (z : Int32) (htab : tab.before sargs s = true) (hfr : 4 ≤ R.frames) (hlo : W + 65 ≤ R.locals) :
    Back l R p e below s sargs yN len W (fun A₁ a₁ => A₁.cells + 1 ≤ R.cells ∧ A₁.slots + A.slots.size ≤ R.slots ∧ P a D fV fC b A z a₁ A₁.U) (fun A₁ _ v₁ B₁ => E a D fV fC A v₁ A₁.U B₁.U ∧ B₁.locs = A₁.locs ++ [⟨a, fC.slot⟩, ⟨a, fV.slot⟩] ∧ B₁.cells = A₁.cells + 1 ∧ B₁.slots = A₁.slots + A.slots.size) :=
  (law l a D fV fC b A z).pays htab hfr (by omega)
end New1
end StrChars
namespace StrChars.Road
open Jvm Sem ClassFile Op Lib Jvm.Stand Jvm.Free Jvm.Free.XT
open Jvm.Lib.Cold (StaticIs)
abbrev ST : String := "java/lang/String"
/-- every table word that New1's law asks, flat -/
abbrev words : List Jvm.Cond := [.code New1.yN New1.yB 2 none, .initialized ST, .methodLink ST 27 New4.yN, .instanceMethod New4.yN,
  .code New4.yN New4.yB 6 none, .fieldLink ST 38 ST "COMPACT_STRINGS" "Z", .laysFinal ST ST "value" "[B", .fieldLink ST 9 ST "value" "[B", .laysFinal ST ST "coder" "B", .fieldLink ST 15 ST "coder" "B",
  .methodLink ST 1 Lib.objectInit, .instanceMethod Lib.objectInit, .code Lib.objectInit ⟨#[0xb1]⟩ 1 none, .methodLink ST 177 Cmp3.yN, .static Cmp3.yN, .methodLink ST 47 CodL.yN, .static CodL.yN,
  .code Cmp3.yN Cmp3.yB 6 (some (.array .byte)), .initialized U16, .arrayClass .byte, .methodLink U16 115 Cmp5.yN, .static Cmp5.yN, .code Cmp5.yN Cmp5.yB 7 (some .int), .code CodL.yN CodL.yB 2 (some .byte)]
theorem tab_of {a : Array Value} {s : State} (h : ∀ w ∈ words, w.before a s = true) : New1.tab.before a s = true := by
  have h5 : Cmp5.tab.before a s = true := unparts (wk h (.code Cmp5.yN Cmp5.yB 7 (some .int))) (wks h (.initialized Cmp5.yN.cls :: Cmp5.site))
  have hc : CodL.tab.before a s = true := unparts (wk h (.code CodL.yN CodL.yB 2 (some .byte))) (wks h (.initialized CodL.yN.cls :: CodL.site))
  have q5 : ∀ w ∈ Cmp5.tab :: words, w.before a s = true := fun w hw => (List.mem_cons.mp hw).elim (fun e => e ▸ h5) (h w)
  have h3 : Cmp3.tab.before a s = true := unparts (wk q5 (.code Cmp3.yN Cmp3.yB 6 (some (.array .byte)))) (wks q5 (.initialized Cmp3.yN.cls :: Cmp3.site))
  have q3 : ∀ w ∈ Cmp3.tab :: CodL.tab :: words, w.before a s = true := fun w hw => (List.mem_cons.mp hw).elim (fun e => e ▸ h3) fun hw => (List.mem_cons.mp hw).elim (fun e => e ▸ hc) (h w)
  have h4 : New4.tab.before a s = true := unparts (wk q3 (.code New4.yN New4.yB 6 none)) (wks q3 (.initialized New4.yN.cls :: New4.site))
  have q4 : ∀ w ∈ New4.tab :: words, w.before a s = true := fun w hw => (List.mem_cons.mp hw).elim (fun e => e ▸ h4) (h w)
  exact unparts (wk q4 (.code New1.yN New1.yB 2 none)) (wks q4 (.initialized New1.yN.cls :: New1.site))
/-- the words ride from the start Z to the walk's own state -/
theorem moved {Z s : State} {a0 args : Array Value} (hZ : Z.Warmed39 s.vm) (hw : ∀ d ∈ words, d.before a0 Z = true) : ∀ d ∈ words, d.before args s = true := fun d hd => by
  have q := hw d hd
  have t : ∀ d ∈ words, d = .arrayClass .byte ∨ (d.onTables && d.keepsFace) = true := by decide +kernel
  rcases t d hd with rfl | t
  · exact RoadKit.mvA hZ q
  · exact RoadKit.mv hZ q t
/-- WHAT COMES BACK, over the tables of the start Z: h the heap at the call, h' behind it -/
def Q (Z : State) (x : Addr) (A : Cell) (h : Heap) (v : Option Value) (h' : Heap) (L : List Loc) : Prop := v = none ∧ (∀ y ∈ L, y.base = x) ∧ RoadKit.Keep h h' [x] ∧ h'.size = h.size + 1 ∧ RoadKit.Exa Z h' x ST ∧ RoadKit.Fld Z h' x ST "value" "[B" (.ref h.size) ∧ RoadKit.Fld Z h' x ST "coder" "B" (.int 0) ∧
  (∃ V : Cell, RoadKit.Arr Z h' h.size V .byte ∧ V.vm = .none ∧ Z.vm.findClass "[B" = some V.cls ∧ V.slots.size = A.slots.size ∧ ∀ j, j < A.slots.size → V.slots[j]? = some (.int (lo8 (cv A j)))) ∧
  ∀ (O n d : String) (w : Value), RoadKit.Fld Z h x O n d w → RoadKit.slotOf Z O n d ≠ RoadKit.slotOf Z ST "value" "[B" → RoadKit.slotOf Z O n d ≠ RoadKit.slotOf Z ST "coder" "B" → RoadKit.Fld Z h' x O n d w
/-- **new String(chars) AT A CALL, IN THE ROAD'S FORM**: for specialBack behind newO: x the fresh String, b the char[] with the cell A -/
theorem back {p : Program} {l : Launch} {e : Env} {R : Room} {s : State} {args : Array Value} {below : List Frame} {len W : Nat} {Z : State} {a0 : Array Value} {h : Heap} (hZ : Z.Warmed39 s.vm) (hw : ∀ d ∈ words, d.before a0 Z = true) {kI : Nat} (wi : (Jvm.Cond.instantiable ST kI).before a0 Z = true)
    {x b : Addr} {A : Cell} {z : Int32} {v0 c0 : Value} (E : RoadKit.Exa Z h x ST) (V : RoadKit.Fld Z h x ST "value" "[B" v0) (C : RoadKit.Fld Z h x ST "coder" "B" c0) (K : RoadKit.Arr Z h b A .char) (hty : Typed .char A) (S : RoadKit.Sta Z h ST "COMPACT_STRINGS" "Z" (.int z)) (hz : ¬ z = 0)
    (l0 : 0 < A.slots.size) (l2 : A.slots.size ≤ 536870912) (hp : ∀ i, i < A.slots.size → ¬ 255 < cv A i) (hfr : 4 ≤ R.frames) (hlo : W + 65 ≤ R.locals) :
    Back l R p e below s args New1.yN len W (fun P a => a = #[.ref x, .ref b] ∧ P.U.heap = h ∧ P.cells + 1 ≤ R.cells ∧ P.slots + A.slots.size ≤ R.slots)
      (fun P _ v B => ∃ L, Q Z x A h v B.U.heap L ∧ B.locs = P.locs ++ L ∧ B.cells = P.cells + 1 ∧ B.slots = P.slots + A.slots.size) := by
  intro m meth c P g ig mk a X hg hsize hdg hW hn hp'
  obtain ⟨rfl, rfl, r1, r2⟩ := hp'
  have al : Z.vm.Alike P.U.vm := hZ.alike.trans X.warmed.alike
  obtain ⟨D, cfV, kV, iV, fV, hD, gV, stV, knV, obV, asV, slV⟩ := id V
  obtain ⟨D', cfC, kC, iC, fC, hD', gC, stC, -, -, asC, slC⟩ := id C
  cases hD.symm.trans hD'
  obtain ⟨D2, kD, e1, e2, e3, e4, e5⟩ := id E
  cases hD.symm.trans e1
  obtain ⟨c2, k2, i1, i2, i3, -⟩ := Cond.instantiable_spec wi
  cases e2.symm.trans i1
  cases e3.symm.trans i2
  obtain ⟨kU, u1, u2⟩ := al.2.2 _ _ e3
  have hB : Blank ST x D P.U := ⟨hD, ⟨knV, fun q hq => by rw [hq] at obV; cases obV⟩, by rw [al.findClass]; exact e2, kU, u1, by rw [u2]; exact i3, by rw [u2]; exact e5 i3⟩
  have F1 : Found ST "value" "[B" fV P.U := ⟨SBG.found_only al ⟨cfV, kV, iV, gV⟩, stV⟩
  have F2 : Found ST "coder" "B" fC P.U := ⟨SBG.found_only al ⟨cfC, kC, iC, gC⟩, stC⟩
  have hA : Ch b A P.U := ⟨⟨K.1, State.isArrayOf_alike al K.2.1, K.2.2, by omega⟩, hty⟩
  have hS : StaticIs P.U ST "COMPACT_STRINGS" "Z" (.int z) := by
    obtain ⟨cfS, iS, kS, fS, st, cS, t1, t2, t3, t4, t5, t6, t7⟩ := S
    exact StaticIs.there (s := { Z with heap := P.U.heap }) ⟨cfS, iS, kS, fS, st, cS, t1, t2, t3, t4, t5, (fun q => by rw [q] at t6; cases t6), t7⟩ al rfl
  obtain ⟨v, B, X', ⟨⟨hv, E', V', q1, q2, q3, q4, q5, q6, q7, q8, q9, q10, q11⟩, hl, hc, hs⟩, st⟩ := New1.pays x D fV fC b A z (tab_of (moved hZ hw)) hfr hlo m meth c P g ig mk _ X hg hsize hdg hW hn ⟨r1, r2, rfl, hB, F1, F2, hA, hS, hz, l0, l2, hp⟩
  have al' : Z.vm.Alike B.U.vm := hZ.alike.trans X'.warmed.alike
  have hsz : E'.slots.size = D.slots.size := by
    obtain ⟨-, -, -, kB, w1, w2, w3⟩ := q1
    obtain ⟨kB', y1, y2⟩ := al'.2.2 _ _ e3
    rw [q2.2.1] at w1
    cases w1.symm.trans y1
    rw [w3, e5 i3, y2]
  refine ⟨v, B, X', ⟨_, ⟨hv, ?_, ⟨by omega, fun y cy hy hn' => q10 y cy (by simpa using hn') hy, fun y cy hy => ?_⟩, q11, ⟨E', _, q1.1, by rw [q2.2.1]; exact e2, by rw [q2.2.1]; exact e3, by rw [q2.1]; exact obV, fun _ => by rw [hsz]; exact e5 i3⟩,
    ⟨E', cfV, kV, iV, fV, q1.1, gV, stV, by rw [q2.1]; exact knV, by rw [q2.1]; exact obV, by rw [q2.2.1]; exact asV, q3⟩, ⟨E', cfC, kC, iC, fC, q1.1, gC, stC, by rw [q2.1]; exact knV, by rw [q2.1]; exact obV, by rw [q2.2.1]; exact asC, q4⟩,
    ⟨V', ⟨q5.1, State.isArrayOf_alike al'.symm q5.2.1, q5.2.2.1⟩, q6, by rw [← al'.findClass]; exact q7, q8, fun j hj => by have := q9 j hj; rwa [Nat.zero_add] at this⟩, fun O n d w F n1 n2 => ?_⟩, hl, hc, hs⟩, st⟩
  · intro y hy
    simp only [List.mem_cons, List.not_mem_nil, or_false] at hy
    rcases hy with rfl | rfl <;> rfl
  · by_cases q : y = x
    · subst q
      cases hD.symm.trans hy
      exact ⟨E', q1.1, q2.2.1, q2.1, hsz⟩
    · exact ⟨cy, q10 y cy q hy, rfl, rfl, rfl⟩
  · obtain ⟨D3, cf, k, i, f, g1, g2, g3, g4, g5, g6, g7⟩ := F
    cases hD.symm.trans g1
    simp only [RoadKit.slotOf, g2, gV, gC, Option.map_some, Option.getD_some] at n1 n2
    exact ⟨E', cf, k, i, f, q1.1, g2, g3, by rw [q2.1]; exact g4, by rw [q2.1]; exact g5, by rw [q2.2.1]; exact g6, by rw [q2.2.2 f.slot (by simp [n1, n2])]; exact g7⟩
end StrChars.Road
namespace StrChars.Road
open Jvm Sem ClassFile Op Lib Jvm.Stand Jvm.Free Jvm.Free.XT
/-- WHAT COMES BACK, the byte[] as a list of values -/
def QA (Z : State) (x : Addr) (zn : Int32) (cs : List Int32) (h : Heap) (v : Option Value) (h' : Heap) (L : List Loc) : Prop := v = none ∧ (∀ y ∈ L, y.base = x) ∧ RoadKit.Keep h h' [x] ∧ h'.size = h.size + 1 ∧ RoadKit.Exa Z h' x ST ∧ RoadKit.Fld Z h' x ST "value" "[B" (.ref h.size) ∧ RoadKit.Fld Z h' x ST "coder" "B" (.int 0) ∧
  (∃ kb, Z.vm.findClass "[B" = some kb ∧ RoadKit.Arv Z h' h.size kb .byte zn (cs.map fun c => .int (lo8 c)) (.int 0)) ∧
  ∀ (O n d : String) (w : Value), RoadKit.Fld Z h x O n d w → RoadKit.slotOf Z O n d ≠ RoadKit.slotOf Z ST "value" "[B" → RoadKit.slotOf Z O n d ≠ RoadKit.slotOf Z ST "coder" "B" → RoadKit.Fld Z h' x O n d w
/-- **new String(chars) AT A CALL, THE ARRAYS AS LISTS**: the char[] at b holds cs, not empty, no char above 255 -/
theorem backArv {p : Program} {l : Launch} {e : Env} {R : Room} {s : State} {args : Array Value} {below : List Frame} {len W : Nat} {Z : State} {a0 : Array Value} {h : Heap} (hZ : Z.Warmed39 s.vm) (hw : ∀ d ∈ words, d.before a0 Z = true) {kI : Nat} (wi : (Jvm.Cond.instantiable ST kI).before a0 Z = true)
    {x b : Addr} {k : ClassId} {zn z : Int32} {cs : List Int32} {dv v0 c0 : Value} (E : RoadKit.Exa Z h x ST) (V : RoadKit.Fld Z h x ST "value" "[B" v0) (C : RoadKit.Fld Z h x ST "coder" "B" c0) (K : RoadKit.Arv Z h b k .char zn (cs.map Value.int) dv) (S : RoadKit.Sta Z h ST "COMPACT_STRINGS" "Z" (.int z)) (hz : ¬ z = 0)
    (hlen : zn.toNatClampNeg = cs.length) (h0 : 0 < cs.length) (hbig : cs.length ≤ 536870912) (hall : ∀ c ∈ cs, ¬ 255 < c) (hfr : 4 ≤ R.frames) (hlo : W + 65 ≤ R.locals) :
    Back l R p e below s args New1.yN len W (fun P a => a = #[.ref x, .ref b] ∧ P.U.heap = h ∧ P.cells + 1 ≤ R.cells ∧ P.slots + cs.length ≤ R.slots)
      (fun P _ v B => ∃ L, QA Z x zn cs h v B.U.heap L ∧ B.locs = P.locs ++ L ∧ B.cells = P.cells + 1 ∧ B.slots = P.slots + cs.length) := by
  obtain ⟨A, K1, K2, K3, K4, K5, K6⟩ := K
  have e : A.slots.size = cs.length := K3.trans hlen
  have hat : ∀ (i : Nat) (hi : i < cs.length), A.slots[i]? = some (.int cs[i]) := fun i hi => by rw [K5 i (by omega)]; simp [List.getD_eq_getElem?_getD, hi]
  have hcv : ∀ (i : Nat) (hi : i < cs.length), cv A i = cs[i] := fun i hi => by unfold cv; rw [hat i hi]
  have hty : Typed .char A := fun i v hv => by
    have hi : i < A.slots.size := (Array.getElem?_eq_some_iff.mp hv).1
    have q := K5 i hi
    rw [hv] at q
    rw [Option.some.inj q]
    exact K6 i hi
  refine Back.mono (back hZ hw wi E V C K1 hty S hz (by omega) (by omega) (fun i hi => by rw [hcv i (by omega)]; exact hall _ (List.getElem_mem _)) hfr hlo) (fun P a hp => ⟨hp.1, hp.2.1, hp.2.2.1, by rw [e]; exact hp.2.2.2⟩) (fun P a v B hp hq => ?_)
  obtain ⟨L, ⟨q1, q2, q3, q4, q5, q6, q7, ⟨V', v1, v2, v3, v4, v5⟩, q9⟩, hl, hc, hs⟩ := hq
  refine ⟨L, ⟨q1, q2, q3, q4, q5, q6, q7, ⟨V'.cls, v3, V', v1, rfl, by rw [v4, e, hlen], K4, fun i hi => ?_, fun i hi => ?_⟩, q9⟩, hl, hc, by rw [hs, e]⟩
  · have hi' : i < cs.length := by omega
    rw [v5 i (by omega), hcv i hi']; simp [List.getD_eq_getElem?_getD, hi']
  · have hi' : i < cs.length := by omega
    simp only [List.getD_eq_getElem?_getD, List.getElem?_map, List.getElem?_eq_getElem hi', Option.map_some, Option.getD_some]
    exact fits_lo8 _
end StrChars.Road
namespace StrChars.Road
open Jvm Sem ClassFile Op Lib Jvm.Stand Jvm.Free Jvm.Free.XT
/-- WHAT COMES BACK, in the writer's own shape -/
def QV (Z : State) (x : Addr) (N : Int32) (bs : List Int32) (h : Heap) (n0 : Nat) (v : Option Value) (h' : Heap) (L : List Loc) : Prop := v = none ∧ RoadKit.Fr n0 L ∧ RoadKit.Keep h h' [x] ∧ RoadKit.Exa Z h' x ST ∧ RoadKit.Fld Z h' x ST "coder" "B" (.int 0) ∧
  ∃ (t : Addr) (kb : ClassId), n0 ≤ t ∧ h.size ≤ t ∧ ¬ t = x ∧ RoadKit.Fld Z h' x ST "value" "[B" (.ref t) ∧ RoadKit.Arv Z h' t kb .byte N (bs.map Value.int) (.int 0)
/-- **new String(chars) AT A CALL, FOR THE WRITER**: a char[] of n known ints, each 0 to 255 -/
theorem backV {p : Program} {l : Launch} {e : Env} {R : Room} {s : State} {args : Array Value} {below : List Frame} {len W : Nat} {Z : State} {a0 : Array Value} {h : Heap} (hZ : Z.Warmed39 s.vm) (hw : ∀ d ∈ words, d.before a0 Z = true) {kI : Nat} (wi : (Jvm.Cond.instantiable ST kI).before a0 Z = true)
    {x b : Addr} {kC : ClassId} {cs bs : List Int32} {d v0 c0 : Value} {z N : Int32} {n n0 : Nat} (hx0 : n0 ≤ x) (hh0 : n0 ≤ h.size) (E : RoadKit.Exa Z h x ST) (V : RoadKit.Fld Z h x ST "value" "[B" v0) (C : RoadKit.Fld Z h x ST "coder" "B" c0) (K : RoadKit.Arv Z h b kC .char N (cs.map Value.int) d) (S : RoadKit.Sta Z h ST "COMPACT_STRINGS" "Z" (.int z)) (hz : ¬ z = 0)
    (hn : cs.length = n) (hN : N = Int32.ofNat n) (l0 : 0 < n) (l2 : n ≤ 4000) (hp : ∀ c ∈ cs, ¬ c < 0 ∧ ¬ (255 : Int32) < c) (hb : bs = cs.map (fun c => c.toInt8.toInt32)) (hfr : 4 ≤ R.frames) (hlo : W + 65 ≤ R.locals) :
    Back l R p e below s args (⟨"java/lang/String", "<init>", "([C)V"⟩ : MethodName) len W (fun P a => a = #[.ref x, .ref b] ∧ P.U.heap = h ∧ P.cells + 1 ≤ R.cells ∧ P.slots + n ≤ R.slots)
      (fun P _ v B => ∃ L, QV Z x N bs h n0 v B.U.heap L ∧ B.locs = P.locs ++ L ∧ B.cells = P.cells + 1 ∧ B.slots = P.slots + n) := by
  subst hn hN hb
  refine Back.mono (backArv hZ hw wi E V C K S hz (n32 (by omega)) l0 (by omega) (fun c hc => (hp c hc).2) hfr hlo) (fun P a hp => hp) (fun P a v B hp hq => ?_)
  obtain ⟨L, ⟨q1, q2, q3, q4, q5, q6, q7, ⟨kb, v1, v2⟩, q9⟩, hl, hc, hs⟩ := hq
  exact ⟨L, ⟨q1, fun y hy => by rw [q2 y hy]; exact hx0, q3, q5, q7, h.size, kb, hh0, Nat.le_refl _, Nat.ne_of_gt E.lt, q6, by rw [List.map_map]; exact v2⟩, hl, hc, hs⟩
end StrChars.Road
end Jvm.Pilot.@@N@@

namespace Jvm.Pilot.@@N@@
open Jvm Jvm.ClassFile Sem Op
theorem own_known {vm : Vm} {m : MethodId} (h : Jvm.Pilot.@@N@@.Jvm.D.methodKnown vm m = true) : vm.knowsMethod m := by
  unfold Jvm.Pilot.@@N@@.Jvm.D.methodKnown at h
  cases hk : vm.classes[m.cls]? with
  | none => simp [hk] at h
  | some k => exact ⟨k, hk, fun cf hcf => by simpa [hk, hcf] using h⟩
theorem own_tables {s : State} (h : Jvm.Pilot.@@N@@.Jvm.D.tablesKnown s = true) : s.vm.MethodsKnown := by
  intro m x hm
  obtain ⟨k, hk, hx⟩ : ∃ k, s.vm.classes[m.cls]? = some k ∧ k.methods[m.idx]? = some x := by
    unfold Vm.method? at hm
    cases hk : s.vm.classes[m.cls]? with
    | none => rw [hk] at hm; cases hm
    | some k => rw [hk] at hm; exact ⟨k, rfl, hm⟩
  refine ⟨k, hk, fun cf hcf => ?_⟩
  have h1 := (Array.all_eq_true_iff_forall_mem.mp h) k (Array.mem_of_getElem? hk)
  simp only [hcf, beq_iff_eq] at h1
  have h2 := (Array.getElem?_eq_some_iff.mp hx).1
  rw [h1] at h2
  simp [h2]
theorem own_frames {s : State} {m : MethodId} {args : Array Value} {below : List Frame} (h : Jvm.Pilot.@@N@@.Jvm.D.framesKnown s = true) (hf : s.frames = .invoking m args :: below) : s.vm.FramesKnown below := by
  intro y hy m' hm'
  unfold Jvm.Pilot.@@N@@.Jvm.D.framesKnown at h
  rw [hf] at h
  have h1 := (List.all_eq_true.mp h) y (List.mem_cons_of_mem _ hy)
  cases y with
  | java g => cases hm'; exact own_known h1
  | native n => cases hm'; exact own_known h1
  | _ => cases hm'
end Jvm.Pilot.@@N@@

namespace Jvm.Pilot.@@N@@
open Jvm Jvm.ClassFile Sem Op Lib Jvm.Free Jvm.Stand Jvm.LawKit Jvm.RoadKit Bundle Jvm.Pilot.@@N@@.Jvm.D Jvm.OwnKit

theorem w_0 {a0 : Array Value} {Z : State} (hw : ∀ d ∈ tables_1, d.before a0 Z = true) : (Jvm.Cond.methodLink "com/example/earnest_trail/earnesttrail/ApiExceptionBadRequestPinLaw" (18 : Nat) ({ cls := "com/example/earnest_trail/earnesttrail/ApiExceptionBadRequestPinLaw", name := "drawMessage", desc := "(ICCC)Ljava/lang/String;" } : Jvm.MethodName)).before a0 Z = true := hw _ (List.mem_of_getElem? (i := 0) rfl)
theorem w_1 {a0 : Array Value} {Z : State} (hw : ∀ d ∈ tables_1, d.before a0 Z = true) : (Jvm.Cond.static ({ cls := "com/example/earnest_trail/earnesttrail/ApiExceptionBadRequestPinLaw", name := "drawMessage", desc := "(ICCC)Ljava/lang/String;" } : Jvm.MethodName)).before a0 Z = true := hw _ (List.mem_of_getElem? (i := 1) rfl)
theorem w_2 {a0 : Array Value} {Z : State} (hw : ∀ d ∈ tables_1, d.before a0 Z = true) : (Jvm.Cond.initialized "com/example/earnest_trail/earnesttrail/ApiExceptionBadRequestPinLaw").before a0 Z = true := hw _ (List.mem_of_getElem? (i := 2) rfl)
theorem w_3 {a0 : Array Value} {Z : State} (hw : ∀ d ∈ tables_1, d.before a0 Z = true) : (Jvm.Cond.code ({ cls := "com/example/earnest_trail/earnesttrail/ApiExceptionBadRequestPinLaw", name := "drawMessage", desc := "(ICCC)Ljava/lang/String;" } : Jvm.MethodName) method_2_code (5 : Nat) (Option.some (Jvm.ClassFile.FieldType.object "java/lang/String"))).before a0 Z = true := hw _ (List.mem_of_getElem? (i := 3) rfl)
theorem w_4 {a0 : Array Value} {Z : State} (hw : ∀ d ∈ tables_1, d.before a0 Z = true) : (Jvm.Cond.stringLink "com/example/earnest_trail/earnesttrail/ApiExceptionBadRequestPinLaw" (7 : Nat) "").before a0 Z = true := hw _ (List.mem_of_getElem? (i := 4) rfl)
theorem w_5 {a0 : Array Value} {Z : State} (hw : ∀ d ∈ tables_1, d.before a0 Z = true) : (Jvm.Cond.initialized "java/lang/String").before a0 Z = true := hw _ (List.mem_of_getElem? (i := 5) rfl)
theorem w_6 {a0 : Array Value} {Z : State} (hw : ∀ d ∈ tables_1, d.before a0 Z = true) : (Jvm.Cond.instantiable "java/lang/String" (4 : Nat)).before a0 Z = true := hw _ (List.mem_of_getElem? (i := 6) rfl)
theorem w_7 {a0 : Array Value} {Z : State} (hw : ∀ d ∈ tables_1, d.before a0 Z = true) : (Jvm.Cond.arrayClass Jvm.ClassFile.FieldType.byte).before a0 Z = true := hw _ (List.mem_of_getElem? (i := 7) rfl)
theorem w_8 {a0 : Array Value} {Z : State} (hw : ∀ d ∈ tables_1, d.before a0 Z = true) : (Jvm.Cond.laysFinal "java/lang/String" "java/lang/String" "value" "[B").before a0 Z = true := hw _ (List.mem_of_getElem? (i := 8) rfl)
theorem w_9 {a0 : Array Value} {Z : State} (hw : ∀ d ∈ tables_1, d.before a0 Z = true) : (Jvm.Cond.laysFinal "java/lang/String" "java/lang/String" "coder" "B").before a0 Z = true := hw _ (List.mem_of_getElem? (i := 9) rfl)
theorem w_12 {a0 : Array Value} {Z : State} (hw : ∀ d ∈ tables_1, d.before a0 Z = true) : (Jvm.Cond.methodLink "com/example/earnest_trail/earnesttrail/ApiExceptionBadRequestPinLaw" (24 : Nat) ({ cls := "com/example/earnest_trail/earnesttrail/ApiException", name := "badRequest", desc := "(Ljava/lang/String;)Lcom/example/earnest_trail/earnesttrail/ApiException;" } : Jvm.MethodName)).before a0 Z = true := hw _ (List.mem_of_getElem? (i := 12) rfl)
theorem w_13 {a0 : Array Value} {Z : State} (hw : ∀ d ∈ tables_1, d.before a0 Z = true) : (Jvm.Cond.static ({ cls := "com/example/earnest_trail/earnesttrail/ApiException", name := "badRequest", desc := "(Ljava/lang/String;)Lcom/example/earnest_trail/earnesttrail/ApiException;" } : Jvm.MethodName)).before a0 Z = true := hw _ (List.mem_of_getElem? (i := 13) rfl)
theorem w_14 {a0 : Array Value} {Z : State} (hw : ∀ d ∈ tables_1, d.before a0 Z = true) : (Jvm.Cond.initialized "com/example/earnest_trail/earnesttrail/ApiException").before a0 Z = true := hw _ (List.mem_of_getElem? (i := 14) rfl)
theorem w_15 {a0 : Array Value} {Z : State} (hw : ∀ d ∈ tables_1, d.before a0 Z = true) : (Jvm.Cond.code ({ cls := "com/example/earnest_trail/earnesttrail/ApiException", name := "badRequest", desc := "(Ljava/lang/String;)Lcom/example/earnest_trail/earnesttrail/ApiException;" } : Jvm.MethodName) prog_2_method_2_code (1 : Nat) (Option.some (Jvm.ClassFile.FieldType.object "com/example/earnest_trail/earnesttrail/ApiException"))).before a0 Z = true := hw _ (List.mem_of_getElem? (i := 15) rfl)
theorem w_16 {a0 : Array Value} {Z : State} (hw : ∀ d ∈ tables_1, d.before a0 Z = true) : (Jvm.Cond.classLink "com/example/earnest_trail/earnesttrail/ApiException" (8 : Nat) "com/example/earnest_trail/earnesttrail/ApiException").before a0 Z = true := hw _ (List.mem_of_getElem? (i := 16) rfl)
theorem w_17 {a0 : Array Value} {Z : State} (hw : ∀ d ∈ tables_1, d.before a0 Z = true) : (Jvm.Cond.instantiable "com/example/earnest_trail/earnesttrail/ApiException" (7 : Nat)).before a0 Z = true := hw _ (List.mem_of_getElem? (i := 17) rfl)
theorem w_18 {a0 : Array Value} {Z : State} (hw : ∀ d ∈ tables_1, d.before a0 Z = true) : (Jvm.Cond.methodLink "com/example/earnest_trail/earnesttrail/ApiException" (13 : Nat) ({ cls := "com/example/earnest_trail/earnesttrail/ApiException", name := "<init>", desc := "(ILjava/lang/String;)V" } : Jvm.MethodName)).before a0 Z = true := hw _ (List.mem_of_getElem? (i := 18) rfl)
theorem w_19 {a0 : Array Value} {Z : State} (hw : ∀ d ∈ tables_1, d.before a0 Z = true) : (Jvm.Cond.instanceMethod ({ cls := "com/example/earnest_trail/earnesttrail/ApiException", name := "<init>", desc := "(ILjava/lang/String;)V" } : Jvm.MethodName)).before a0 Z = true := hw _ (List.mem_of_getElem? (i := 19) rfl)
theorem w_20 {a0 : Array Value} {Z : State} (hw : ∀ d ∈ tables_1, d.before a0 Z = true) : (Jvm.Cond.code ({ cls := "com/example/earnest_trail/earnesttrail/ApiException", name := "<init>", desc := "(ILjava/lang/String;)V" } : Jvm.MethodName) prog_2_method_1_code (3 : Nat) (Option.none : Option Jvm.ClassFile.FieldType)).before a0 Z = true := hw _ (List.mem_of_getElem? (i := 20) rfl)
theorem w_21 {a0 : Array Value} {Z : State} (hw : ∀ d ∈ tables_1, d.before a0 Z = true) : (Jvm.Cond.methodLink "com/example/earnest_trail/earnesttrail/ApiException" (1 : Nat) ({ cls := "java/lang/RuntimeException", name := "<init>", desc := "(Ljava/lang/String;)V" } : Jvm.MethodName)).before a0 Z = true := hw _ (List.mem_of_getElem? (i := 21) rfl)
theorem w_22 {a0 : Array Value} {Z : State} (hw : ∀ d ∈ tables_1, d.before a0 Z = true) : (Jvm.Cond.instanceMethod ({ cls := "java/lang/RuntimeException", name := "<init>", desc := "(Ljava/lang/String;)V" } : Jvm.MethodName)).before a0 Z = true := hw _ (List.mem_of_getElem? (i := 22) rfl)
theorem w_24 {a0 : Array Value} {Z : State} (hw : ∀ d ∈ tables_1, d.before a0 Z = true) : (Jvm.Cond.initialized "java/lang/RuntimeException").before a0 Z = true := hw _ (List.mem_of_getElem? (i := 24) rfl)
theorem w_25 {a0 : Array Value} {Z : State} (hw : ∀ d ∈ tables_1, d.before a0 Z = true) : (Jvm.Cond.code ({ cls := "java/lang/RuntimeException", name := "<init>", desc := "(Ljava/lang/String;)V" } : Jvm.MethodName) jdk_58_method_2_code (2 : Nat) (Option.none : Option Jvm.ClassFile.FieldType)).before a0 Z = true := hw _ (List.mem_of_getElem? (i := 25) rfl)
theorem w_26 {a0 : Array Value} {Z : State} (hw : ∀ d ∈ tables_1, d.before a0 Z = true) : (Jvm.Cond.methodLink "java/lang/RuntimeException" (7 : Nat) ({ cls := "java/lang/Exception", name := "<init>", desc := "(Ljava/lang/String;)V" } : Jvm.MethodName)).before a0 Z = true := hw _ (List.mem_of_getElem? (i := 26) rfl)
theorem w_27 {a0 : Array Value} {Z : State} (hw : ∀ d ∈ tables_1, d.before a0 Z = true) : (Jvm.Cond.instanceMethod ({ cls := "java/lang/Exception", name := "<init>", desc := "(Ljava/lang/String;)V" } : Jvm.MethodName)).before a0 Z = true := hw _ (List.mem_of_getElem? (i := 27) rfl)
theorem w_30 {a0 : Array Value} {Z : State} (hw : ∀ d ∈ tables_1, d.before a0 Z = true) : (Jvm.Cond.initialized "java/lang/Exception").before a0 Z = true := hw _ (List.mem_of_getElem? (i := 30) rfl)
theorem w_31 {a0 : Array Value} {Z : State} (hw : ∀ d ∈ tables_1, d.before a0 Z = true) : (Jvm.Cond.code ({ cls := "java/lang/Exception", name := "<init>", desc := "(Ljava/lang/String;)V" } : Jvm.MethodName) jdk_59_method_2_code (2 : Nat) (Option.none : Option Jvm.ClassFile.FieldType)).before a0 Z = true := hw _ (List.mem_of_getElem? (i := 31) rfl)
theorem w_32 {a0 : Array Value} {Z : State} (hw : ∀ d ∈ tables_1, d.before a0 Z = true) : (Jvm.Cond.methodLink "java/lang/Exception" (7 : Nat) ({ cls := "java/lang/Throwable", name := "<init>", desc := "(Ljava/lang/String;)V" } : Jvm.MethodName)).before a0 Z = true := hw _ (List.mem_of_getElem? (i := 32) rfl)
theorem w_33 {a0 : Array Value} {Z : State} (hw : ∀ d ∈ tables_1, d.before a0 Z = true) : (Jvm.Cond.instanceMethod ({ cls := "java/lang/Throwable", name := "<init>", desc := "(Ljava/lang/String;)V" } : Jvm.MethodName)).before a0 Z = true := hw _ (List.mem_of_getElem? (i := 33) rfl)
theorem w_36 {a0 : Array Value} {Z : State} (hw : ∀ d ∈ tables_1, d.before a0 Z = true) : (Jvm.Cond.initialized "java/lang/Throwable").before a0 Z = true := hw _ (List.mem_of_getElem? (i := 36) rfl)
theorem w_37 {a0 : Array Value} {Z : State} (hw : ∀ d ∈ tables_1, d.before a0 Z = true) : (Jvm.Cond.code ({ cls := "java/lang/Throwable", name := "<init>", desc := "(Ljava/lang/String;)V" } : Jvm.MethodName) jdk_78_method_2_code (2 : Nat) (Option.none : Option Jvm.ClassFile.FieldType)).before a0 Z = true := hw _ (List.mem_of_getElem? (i := 37) rfl)
theorem w_38 {a0 : Array Value} {Z : State} (hw : ∀ d ∈ tables_1, d.before a0 Z = true) : (Jvm.Cond.methodLink "java/lang/Throwable" (1 : Nat) ({ cls := "java/lang/Object", name := "<init>", desc := "()V" } : Jvm.MethodName)).before a0 Z = true := hw _ (List.mem_of_getElem? (i := 38) rfl)
theorem w_39 {a0 : Array Value} {Z : State} (hw : ∀ d ∈ tables_1, d.before a0 Z = true) : (Jvm.Cond.instanceMethod ({ cls := "java/lang/Object", name := "<init>", desc := "()V" } : Jvm.MethodName)).before a0 Z = true := hw _ (List.mem_of_getElem? (i := 39) rfl)
theorem w_40 {a0 : Array Value} {Z : State} (hw : ∀ d ∈ tables_1, d.before a0 Z = true) : (Jvm.Cond.code ({ cls := "java/lang/Object", name := "<init>", desc := "()V" } : Jvm.MethodName) object_method_1_code (1 : Nat) (Option.none : Option Jvm.ClassFile.FieldType)).before a0 Z = true := hw _ (List.mem_of_getElem? (i := 40) rfl)
theorem w_41 {a0 : Array Value} {Z : State} (hw : ∀ d ∈ tables_1, d.before a0 Z = true) : (Jvm.Cond.fieldLink "java/lang/Throwable" (7 : Nat) "java/lang/Throwable" "cause" "Ljava/lang/Throwable;").before a0 Z = true := hw _ (List.mem_of_getElem? (i := 41) rfl)
theorem w_42 {a0 : Array Value} {Z : State} (hw : ∀ d ∈ tables_1, d.before a0 Z = true) : (Jvm.Cond.lays "com/example/earnest_trail/earnesttrail/ApiException" "java/lang/Throwable" "cause" "Ljava/lang/Throwable;").before a0 Z = true := hw _ (List.mem_of_getElem? (i := 42) rfl)
theorem w_43 {a0 : Array Value} {Z : State} (hw : ∀ d ∈ tables_1, d.before a0 Z = true) : (Jvm.Cond.fieldLink "java/lang/Throwable" (13 : Nat) "java/lang/Throwable" "UNASSIGNED_STACK" "[Ljava/lang/StackTraceElement;").before a0 Z = true := hw _ (List.mem_of_getElem? (i := 43) rfl)
theorem w_44 {a0 : Array Value} {Z : State} (hw : ∀ d ∈ tables_1, d.before a0 Z = true) : (Jvm.Cond.fieldLink "java/lang/Throwable" (17 : Nat) "java/lang/Throwable" "stackTrace" "[Ljava/lang/StackTraceElement;").before a0 Z = true := hw _ (List.mem_of_getElem? (i := 44) rfl)
theorem w_45 {a0 : Array Value} {Z : State} (hw : ∀ d ∈ tables_1, d.before a0 Z = true) : (Jvm.Cond.lays "com/example/earnest_trail/earnesttrail/ApiException" "java/lang/Throwable" "stackTrace" "[Ljava/lang/StackTraceElement;").before a0 Z = true := hw _ (List.mem_of_getElem? (i := 45) rfl)
theorem w_46 {a0 : Array Value} {Z : State} (hw : ∀ d ∈ tables_1, d.before a0 Z = true) : (Jvm.Cond.fieldLink "java/lang/Throwable" (20 : Nat) "java/lang/Throwable" "SUPPRESSED_SENTINEL" "Ljava/util/List;").before a0 Z = true := hw _ (List.mem_of_getElem? (i := 46) rfl)
theorem w_47 {a0 : Array Value} {Z : State} (hw : ∀ d ∈ tables_1, d.before a0 Z = true) : (Jvm.Cond.fieldLink "java/lang/Throwable" (24 : Nat) "java/lang/Throwable" "suppressedExceptions" "Ljava/util/List;").before a0 Z = true := hw _ (List.mem_of_getElem? (i := 47) rfl)
theorem w_48 {a0 : Array Value} {Z : State} (hw : ∀ d ∈ tables_1, d.before a0 Z = true) : (Jvm.Cond.lays "com/example/earnest_trail/earnesttrail/ApiException" "java/lang/Throwable" "suppressedExceptions" "Ljava/util/List;").before a0 Z = true := hw _ (List.mem_of_getElem? (i := 48) rfl)
theorem w_49 {a0 : Array Value} {Z : State} (hw : ∀ d ∈ tables_1, d.before a0 Z = true) : (Jvm.Cond.methodLink "java/lang/Throwable" (27 : Nat) ({ cls := "java/lang/Throwable", name := "fillInStackTrace", desc := "()Ljava/lang/Throwable;" } : Jvm.MethodName)).before a0 Z = true := hw _ (List.mem_of_getElem? (i := 49) rfl)
theorem w_50 {a0 : Array Value} {Z : State} (hw : ∀ d ∈ tables_1, d.before a0 Z = true) : (Jvm.Cond.declares ({ cls := "java/lang/Throwable", name := "fillInStackTrace", desc := "()Ljava/lang/Throwable;" } : Jvm.MethodName)).before a0 Z = true := hw _ (List.mem_of_getElem? (i := 50) rfl)
theorem w_51 {a0 : Array Value} {Z : State} (hw : ∀ d ∈ tables_1, d.before a0 Z = true) : (Jvm.Cond.instanceMethod ({ cls := "java/lang/Throwable", name := "fillInStackTrace", desc := "()Ljava/lang/Throwable;" } : Jvm.MethodName)).before a0 Z = true := hw _ (List.mem_of_getElem? (i := 51) rfl)
theorem w_52 {a0 : Array Value} {Z : State} (hw : ∀ d ∈ tables_1, d.before a0 Z = true) : (Jvm.Cond.selects "com/example/earnest_trail/earnesttrail/ApiException" ({ cls := "java/lang/Throwable", name := "fillInStackTrace", desc := "()Ljava/lang/Throwable;" } : Jvm.MethodName) ({ cls := "java/lang/Throwable", name := "fillInStackTrace", desc := "()Ljava/lang/Throwable;" } : Jvm.MethodName)).before a0 Z = true := hw _ (List.mem_of_getElem? (i := 52) rfl)
theorem w_72 {a0 : Array Value} {Z : State} (hw : ∀ d ∈ tables_1, d.before a0 Z = true) : (Jvm.Cond.lays "com/example/earnest_trail/earnesttrail/ApiException" "java/lang/Throwable" "detailMessage" "Ljava/lang/String;").before a0 Z = true := hw _ (List.mem_of_getElem? (i := 72) rfl)
theorem w_73 {a0 : Array Value} {Z : State} (hw : ∀ d ∈ tables_1, d.before a0 Z = true) : (Jvm.Cond.lays "com/example/earnest_trail/earnesttrail/ApiException" "java/lang/Throwable" "backtrace" "Ljava/lang/Object;").before a0 Z = true := hw _ (List.mem_of_getElem? (i := 73) rfl)
theorem w_74 {a0 : Array Value} {Z : State} (hw : ∀ d ∈ tables_1, d.before a0 Z = true) : (Jvm.Cond.lays "com/example/earnest_trail/earnesttrail/ApiException" "java/lang/Throwable" "depth" "I").before a0 Z = true := hw _ (List.mem_of_getElem? (i := 74) rfl)
theorem w_76 {a0 : Array Value} {Z : State} (hw : ∀ d ∈ tables_1, d.before a0 Z = true) : (Jvm.Cond.fieldLink "java/lang/Throwable" (31 : Nat) "java/lang/Throwable" "detailMessage" "Ljava/lang/String;").before a0 Z = true := hw _ (List.mem_of_getElem? (i := 76) rfl)
theorem w_77 {a0 : Array Value} {Z : State} (hw : ∀ d ∈ tables_1, d.before a0 Z = true) : (Jvm.Cond.fieldLink "com/example/earnest_trail/earnesttrail/ApiException" (7 : Nat) "com/example/earnest_trail/earnesttrail/ApiException" "status" "I").before a0 Z = true := hw _ (List.mem_of_getElem? (i := 77) rfl)
theorem w_78 {a0 : Array Value} {Z : State} (hw : ∀ d ∈ tables_1, d.before a0 Z = true) : (Jvm.Cond.laysFinal "com/example/earnest_trail/earnesttrail/ApiException" "com/example/earnest_trail/earnesttrail/ApiException" "status" "I").before a0 Z = true := hw _ (List.mem_of_getElem? (i := 78) rfl)
theorem w_79 {a0 : Array Value} {Z : State} (hw : ∀ d ∈ tables_1, d.before a0 Z = true) : (Jvm.Cond.methodLink "com/example/earnest_trail/earnesttrail/ApiExceptionBadRequestPinLaw" (30 : Nat) ({ cls := "com/example/earnest_trail/earnesttrail/ApiException", name := "status", desc := "()I" } : Jvm.MethodName)).before a0 Z = true := hw _ (List.mem_of_getElem? (i := 79) rfl)
theorem w_80 {a0 : Array Value} {Z : State} (hw : ∀ d ∈ tables_1, d.before a0 Z = true) : (Jvm.Cond.declares ({ cls := "com/example/earnest_trail/earnesttrail/ApiException", name := "status", desc := "()I" } : Jvm.MethodName)).before a0 Z = true := hw _ (List.mem_of_getElem? (i := 80) rfl)
theorem w_81 {a0 : Array Value} {Z : State} (hw : ∀ d ∈ tables_1, d.before a0 Z = true) : (Jvm.Cond.instanceMethod ({ cls := "com/example/earnest_trail/earnesttrail/ApiException", name := "status", desc := "()I" } : Jvm.MethodName)).before a0 Z = true := hw _ (List.mem_of_getElem? (i := 81) rfl)
theorem w_82 {a0 : Array Value} {Z : State} (hw : ∀ d ∈ tables_1, d.before a0 Z = true) : (Jvm.Cond.selects "com/example/earnest_trail/earnesttrail/ApiException" ({ cls := "com/example/earnest_trail/earnesttrail/ApiException", name := "status", desc := "()I" } : Jvm.MethodName) ({ cls := "com/example/earnest_trail/earnesttrail/ApiException", name := "status", desc := "()I" } : Jvm.MethodName)).before a0 Z = true := hw _ (List.mem_of_getElem? (i := 82) rfl)
theorem w_83 {a0 : Array Value} {Z : State} (hw : ∀ d ∈ tables_1, d.before a0 Z = true) : (Jvm.Cond.code ({ cls := "com/example/earnest_trail/earnesttrail/ApiException", name := "status", desc := "()I" } : Jvm.MethodName) prog_2_method_4_code (1 : Nat) (Option.some Jvm.ClassFile.FieldType.int)).before a0 Z = true := hw _ (List.mem_of_getElem? (i := 83) rfl)
theorem w_84 {a0 : Array Value} {Z : State} (hw : ∀ d ∈ tables_1, d.before a0 Z = true) : (Jvm.Cond.methodLink "com/example/earnest_trail/earnesttrail/ApiExceptionBadRequestPinLaw" (34 : Nat) ({ cls := "com/example/earnest_trail/earnesttrail/ApiException", name := "getMessage", desc := "()Ljava/lang/String;" } : Jvm.MethodName)).before a0 Z = true := hw _ (List.mem_of_getElem? (i := 84) rfl)
theorem w_85 {a0 : Array Value} {Z : State} (hw : ∀ d ∈ tables_1, d.before a0 Z = true) : (Jvm.Cond.sameMethod "com/example/earnest_trail/earnesttrail/ApiException" "java/lang/Throwable" "getMessage" "()Ljava/lang/String;").before a0 Z = true := hw _ (List.mem_of_getElem? (i := 85) rfl)
theorem w_86 {a0 : Array Value} {Z : State} (hw : ∀ d ∈ tables_1, d.before a0 Z = true) : (Jvm.Cond.declares ({ cls := "java/lang/Throwable", name := "getMessage", desc := "()Ljava/lang/String;" } : Jvm.MethodName)).before a0 Z = true := hw _ (List.mem_of_getElem? (i := 86) rfl)
theorem w_87 {a0 : Array Value} {Z : State} (hw : ∀ d ∈ tables_1, d.before a0 Z = true) : (Jvm.Cond.instanceMethod ({ cls := "java/lang/Throwable", name := "getMessage", desc := "()Ljava/lang/String;" } : Jvm.MethodName)).before a0 Z = true := hw _ (List.mem_of_getElem? (i := 87) rfl)
theorem w_88 {a0 : Array Value} {Z : State} (hw : ∀ d ∈ tables_1, d.before a0 Z = true) : (Jvm.Cond.selects "com/example/earnest_trail/earnesttrail/ApiException" ({ cls := "com/example/earnest_trail/earnesttrail/ApiException", name := "getMessage", desc := "()Ljava/lang/String;" } : Jvm.MethodName) ({ cls := "java/lang/Throwable", name := "getMessage", desc := "()Ljava/lang/String;" } : Jvm.MethodName)).before a0 Z = true := hw _ (List.mem_of_getElem? (i := 88) rfl)
theorem w_89 {a0 : Array Value} {Z : State} (hw : ∀ d ∈ tables_1, d.before a0 Z = true) : (Jvm.Cond.code ({ cls := "java/lang/Throwable", name := "getMessage", desc := "()Ljava/lang/String;" } : Jvm.MethodName) jdk_78_method_6_code (1 : Nat) (Option.some (Jvm.ClassFile.FieldType.object "java/lang/String"))).before a0 Z = true := hw _ (List.mem_of_getElem? (i := 89) rfl)
theorem w_90 {a0 : Array Value} {Z : State} (hw : ∀ d ∈ tables_1, d.before a0 Z = true) : (Jvm.Cond.classLink "com/example/earnest_trail/earnesttrail/ApiExceptionBadRequestPinLaw" (10 : Nat) "java/lang/String").before a0 Z = true := hw _ (List.mem_of_getElem? (i := 90) rfl)
theorem w_91 {a0 : Array Value} {Z : State} (hw : ∀ d ∈ tables_1, d.before a0 Z = true) : (Jvm.Cond.arrayClass Jvm.ClassFile.FieldType.char).before a0 Z = true := hw _ (List.mem_of_getElem? (i := 91) rfl)
theorem w_92 {a0 : Array Value} {Z : State} (hw : ∀ d ∈ tables_1, d.before a0 Z = true) : (Jvm.Cond.methodLink "com/example/earnest_trail/earnesttrail/ApiExceptionBadRequestPinLaw" (15 : Nat) ({ cls := "java/lang/String", name := "<init>", desc := "([C)V" } : Jvm.MethodName)).before a0 Z = true := hw _ (List.mem_of_getElem? (i := 92) rfl)
theorem w_93 {a0 : Array Value} {Z : State} (hw : ∀ d ∈ tables_1, d.before a0 Z = true) : (Jvm.Cond.instanceMethod ({ cls := "java/lang/String", name := "<init>", desc := "([C)V" } : Jvm.MethodName)).before a0 Z = true := hw _ (List.mem_of_getElem? (i := 93) rfl)
theorem w_94 {a0 : Array Value} {Z : State} (hw : ∀ d ∈ tables_1, d.before a0 Z = true) : (Jvm.Cond.code ({ cls := "java/lang/String", name := "<init>", desc := "([C)V" } : Jvm.MethodName) jdk_42_method_3_code (2 : Nat) (Option.none : Option Jvm.ClassFile.FieldType)).before a0 Z = true := hw _ (List.mem_of_getElem? (i := 94) rfl)
theorem w_99 {a0 : Array Value} {Z : State} (hw : ∀ d ∈ tables_1, d.before a0 Z = true) : (Jvm.Cond.methodLink "java/lang/String" (1 : Nat) ({ cls := "java/lang/Object", name := "<init>", desc := "()V" } : Jvm.MethodName)).before a0 Z = true := hw _ (List.mem_of_getElem? (i := 99) rfl)
theorem w_100 {a0 : Array Value} {Z : State} (hw : ∀ d ∈ tables_1, d.before a0 Z = true) : (Jvm.Cond.fieldLink "java/lang/String" (38 : Nat) "java/lang/String" "COMPACT_STRINGS" "Z").before a0 Z = true := hw _ (List.mem_of_getElem? (i := 100) rfl)
theorem w_111 {a0 : Array Value} {Z : State} (hw : ∀ d ∈ tables_1, d.before a0 Z = true) : (Jvm.Cond.fieldLink "java/lang/String" (15 : Nat) "java/lang/String" "coder" "B").before a0 Z = true := hw _ (List.mem_of_getElem? (i := 111) rfl)
theorem w_112 {a0 : Array Value} {Z : State} (hw : ∀ d ∈ tables_1, d.before a0 Z = true) : (Jvm.Cond.fieldLink "java/lang/String" (9 : Nat) "java/lang/String" "value" "[B").before a0 Z = true := hw _ (List.mem_of_getElem? (i := 112) rfl)
theorem w_113 {a0 : Array Value} {Z : State} (hw : ∀ d ∈ tables_1, d.before a0 Z = true) : (Jvm.Cond.methodLink "com/example/earnest_trail/earnesttrail/ApiExceptionBadRequestPinLaw" (9 : Nat) ({ cls := "java/lang/String", name := "valueOf", desc := "(C)Ljava/lang/String;" } : Jvm.MethodName)).before a0 Z = true := hw _ (List.mem_of_getElem? (i := 113) rfl)
theorem w_114 {a0 : Array Value} {Z : State} (hw : ∀ d ∈ tables_1, d.before a0 Z = true) : (Jvm.Cond.static ({ cls := "java/lang/String", name := "valueOf", desc := "(C)Ljava/lang/String;" } : Jvm.MethodName)).before a0 Z = true := hw _ (List.mem_of_getElem? (i := 114) rfl)
theorem w_115 {a0 : Array Value} {Z : State} (hw : ∀ d ∈ tables_1, d.before a0 Z = true) : (Jvm.Cond.code ({ cls := "java/lang/String", name := "valueOf", desc := "(C)Ljava/lang/String;" } : Jvm.MethodName) jdk_42_method_139_code (1 : Nat) (Option.some (Jvm.ClassFile.FieldType.object "java/lang/String"))).before a0 Z = true := hw _ (List.mem_of_getElem? (i := 115) rfl)
theorem w_116 {a0 : Array Value} {Z : State} (hw : ∀ d ∈ tables_1, d.before a0 Z = true) : (Jvm.Cond.methodLink "java/lang/String" (1015 : Nat) ({ cls := "java/lang/StringLatin1", name := "canEncode", desc := "(C)Z" } : Jvm.MethodName)).before a0 Z = true := hw _ (List.mem_of_getElem? (i := 116) rfl)
theorem w_117 {a0 : Array Value} {Z : State} (hw : ∀ d ∈ tables_1, d.before a0 Z = true) : (Jvm.Cond.static ({ cls := "java/lang/StringLatin1", name := "canEncode", desc := "(C)Z" } : Jvm.MethodName)).before a0 Z = true := hw _ (List.mem_of_getElem? (i := 117) rfl)
theorem w_118 {a0 : Array Value} {Z : State} (hw : ∀ d ∈ tables_1, d.before a0 Z = true) : (Jvm.Cond.initialized "java/lang/StringLatin1").before a0 Z = true := hw _ (List.mem_of_getElem? (i := 118) rfl)
theorem w_119 {a0 : Array Value} {Z : State} (hw : ∀ d ∈ tables_1, d.before a0 Z = true) : (Jvm.Cond.code ({ cls := "java/lang/StringLatin1", name := "canEncode", desc := "(C)Z" } : Jvm.MethodName) jdk_43_method_3_code (1 : Nat) (Option.some Jvm.ClassFile.FieldType.boolean)).before a0 Z = true := hw _ (List.mem_of_getElem? (i := 119) rfl)
theorem w_120 {a0 : Array Value} {Z : State} (hw : ∀ d ∈ tables_1, d.before a0 Z = true) : (Jvm.Cond.classLink "java/lang/String" (10 : Nat) "java/lang/String").before a0 Z = true := hw _ (List.mem_of_getElem? (i := 120) rfl)
theorem w_121 {a0 : Array Value} {Z : State} (hw : ∀ d ∈ tables_1, d.before a0 Z = true) : (Jvm.Cond.methodLink "java/lang/String" (1018 : Nat) ({ cls := "java/lang/StringLatin1", name := "toBytes", desc := "(C)[B" } : Jvm.MethodName)).before a0 Z = true := hw _ (List.mem_of_getElem? (i := 121) rfl)
theorem w_122 {a0 : Array Value} {Z : State} (hw : ∀ d ∈ tables_1, d.before a0 Z = true) : (Jvm.Cond.static ({ cls := "java/lang/StringLatin1", name := "toBytes", desc := "(C)[B" } : Jvm.MethodName)).before a0 Z = true := hw _ (List.mem_of_getElem? (i := 122) rfl)
theorem w_123 {a0 : Array Value} {Z : State} (hw : ∀ d ∈ tables_1, d.before a0 Z = true) : (Jvm.Cond.code ({ cls := "java/lang/StringLatin1", name := "toBytes", desc := "(C)[B" } : Jvm.MethodName) jdk_43_method_46_code (1 : Nat) (Option.some (Jvm.ClassFile.FieldType.array Jvm.ClassFile.FieldType.byte))).before a0 Z = true := hw _ (List.mem_of_getElem? (i := 123) rfl)
theorem w_124 {a0 : Array Value} {Z : State} (hw : ∀ d ∈ tables_1, d.before a0 Z = true) : (Jvm.Cond.methodLink "java/lang/String" (209 : Nat) ({ cls := "java/lang/String", name := "<init>", desc := "([BB)V" } : Jvm.MethodName)).before a0 Z = true := hw _ (List.mem_of_getElem? (i := 124) rfl)
theorem w_125 {a0 : Array Value} {Z : State} (hw : ∀ d ∈ tables_1, d.before a0 Z = true) : (Jvm.Cond.instanceMethod ({ cls := "java/lang/String", name := "<init>", desc := "([BB)V" } : Jvm.MethodName)).before a0 Z = true := hw _ (List.mem_of_getElem? (i := 125) rfl)
theorem w_126 {a0 : Array Value} {Z : State} (hw : ∀ d ∈ tables_1, d.before a0 Z = true) : (Jvm.Cond.code ({ cls := "java/lang/String", name := "<init>", desc := "([BB)V" } : Jvm.MethodName) jdk_42_method_151_code (3 : Nat) (Option.none : Option Jvm.ClassFile.FieldType)).before a0 Z = true := hw _ (List.mem_of_getElem? (i := 126) rfl)
theorem hws_new {a0 : Array Value} {Z : State} (hw : ∀ d ∈ tables_1, d.before a0 Z = true) : ∀ d ∈ StrChars.Road.words, d.before a0 Z = true := fun d hd => hw d ((by decide +kernel : ∀ d ∈ StrChars.Road.words, d ∈ tables_1) d hd)
theorem hws_str {a0 : Array Value} {Z : State} (hw : ∀ d ∈ tables_1, d.before a0 Z = true) : ∀ d ∈ Bundle.stringAtoms, d.before a0 Z = true := fun d hd => hw d ((by decide +kernel : ∀ d ∈ Bundle.stringAtoms, d ∈ tables_1) d hd)
theorem hws_fill {a0 : Array Value} {Z : State} (hw : ∀ d ∈ tables_1, d.before a0 Z = true) : ∀ d ∈ (fillAtoms "com/example/earnest_trail/earnesttrail/ApiException"), d.before a0 Z = true := fun d hd => hw d ((by decide +kernel : ∀ d ∈ (fillAtoms "com/example/earnest_trail/earnesttrail/ApiException"), d ∈ tables_1) d hd)

theorem ef_ctor0 (m : MethodId) (x0 : Addr) (x1 : Value) (r1 : x1.isRef = true) : entryFrame m #[(.ref x0), x1] 2 = mkF m 0 #[.val (.ref x0), .val x1] [] := by
  rcases ref_cases r1 with rfl | ⟨q1, rfl⟩ <;> first | rfl | (simp [entryFrame, mkF, argsToLocals, Value.category, maxLocals]; done)
theorem pn_java_lang_Throwable : plainName "java/lang/Throwable" = true := by first | (simp [plainName, overriddenIn]; done) | decide +kernel
theorem d0_0 : decode jdk_78_method_2_code 0 = .ok (.aload_n 0, 1) := by decide +kernel
theorem d0_1 : decode jdk_78_method_2_code 1 = .ok (.invokespecial 1, 3) := by decide +kernel
theorem d0_4 : decode jdk_78_method_2_code 4 = .ok (.aload_n 0, 1) := by decide +kernel
theorem d0_5 : decode jdk_78_method_2_code 5 = .ok (.aload_n 0, 1) := by decide +kernel
theorem d0_6 : decode jdk_78_method_2_code 6 = .ok (.putfield 7, 3) := by decide +kernel
theorem d0_9 : decode jdk_78_method_2_code 9 = .ok (.aload_n 0, 1) := by decide +kernel
theorem d0_10 : decode jdk_78_method_2_code 10 = .ok (.getstatic 13, 3) := by decide +kernel
theorem d0_13 : decode jdk_78_method_2_code 13 = .ok (.putfield 17, 3) := by decide +kernel
theorem d0_16 : decode jdk_78_method_2_code 16 = .ok (.aload_n 0, 1) := by decide +kernel
theorem d0_17 : decode jdk_78_method_2_code 17 = .ok (.getstatic 20, 3) := by decide +kernel
theorem d0_20 : decode jdk_78_method_2_code 20 = .ok (.putfield 24, 3) := by decide +kernel
theorem d0_23 : decode jdk_78_method_2_code 23 = .ok (.aload_n 0, 1) := by decide +kernel
theorem d0_24 : decode jdk_78_method_2_code 24 = .ok (.invokevirtual 27, 3) := by decide +kernel
theorem pd_0 : parseMethodDescriptor "()Ljava/lang/Throwable;" = some ⟨[], (some (.object "java/lang/Throwable"))⟩ := by decide +kernel
theorem d0_27 : decode jdk_78_method_2_code 27 = .ok (.pop, 1) := by decide +kernel
theorem d0_28 : decode jdk_78_method_2_code 28 = .ok (.aload_n 0, 1) := by decide +kernel
theorem d0_29 : decode jdk_78_method_2_code 29 = .ok (.aload_n 1, 1) := by decide +kernel
theorem d0_30 : decode jdk_78_method_2_code 30 = .ok (.putfield 31, 3) := by decide +kernel
theorem d0_33 : decode jdk_78_method_2_code 33 = .ok (.return_, 1) := by decide +kernel
def Q_ctor0 (Z : State) (a : Addr) (msg : Value) (h0 : Heap) (v : Option Value) (h : Heap) (vm : Vm) : Prop := v = none ∧ Exa Z h a "com/example/earnest_trail/earnesttrail/ApiException" ∧ Unt h a ∧ Fld Z h a "java/lang/Throwable" "detailMessage" "Ljava/lang/String;" msg
set_option maxRecDepth 65536 in
set_option maxHeartbeats 40000000 in
theorem rm_ctor0 (l : Launch) (Z : State) (a0 : Array Value) (hw : ∀ d ∈ tables_1, d.before a0 Z = true) (wl : List Jvm.Cond) (zc : Int32) (ust : Addr) (sen : Value) (S_String_COMPACT_STRINGS : Sta Z Z.heap "java/lang/String" "COMPACT_STRINGS" "Z" (.int zc)) (hzc : ¬ (zc = (0 : Int32))) (hEW : EW Z a0 []) (hst : l.stackTraces = true) (S_Throwable_UNASSIGNED_STACK : Sta Z Z.heap "java/lang/Throwable" "UNASSIGNED_STACK" "[Ljava/lang/StackTraceElement;" (.ref ust)) (S_Throwable_SUPPRESSED_SENTINEL : Sta Z Z.heap "java/lang/Throwable" "SUPPRESSED_SENTINEL" "Ljava/util/List;" sen) (hsen : sen.isRef = true) (a : Addr) (msg : Value) (h0 : Heap) (n0 : Nat) (O0 : Old Z n0 h0) (F0_a : Exa Z h0 a "com/example/earnest_trail/earnesttrail/ApiException") (F1_a : Unt h0 a) (F2_a_backtrace : Fld Z h0 a "java/lang/Throwable" "backtrace" "Ljava/lang/Object;" .null) (n0_a : n0 ≤ a) (r_msg : msg.isRef = true) :
    Met l (⟨"java/lang/Throwable", "<init>", "(Ljava/lang/String;)V"⟩ : MethodName) jdk_78_method_2_code 2 none wl ({ frames := 3, cells := 1, slots := 2752, locals := 42 } : Room) Z #[(.ref a), msg] h0 n0 [a] [] true [] (Q_ctor0 Z a msg h0) := by
  refine met_intro (own := "java/lang/Throwable") (nm := "<init>") pn_java_lang_Throwable rfl rfl O0 hEW ?_
  intro p e s m below meth cC T0 X0 hsf0
  refine Go.cast (ef_ctor0 m (a) (msg) r_msg) ?_
  have n0le := X0.n0le
  have lt_a : h0.size > a := F0_a.lt
  refine o_aloadN (pc' := 1) (v := (.ref a)) X0 d0_0 rfl rfl rfl ?_
  refine o_initO (pc' := 4) (W := 0) X0 (w_38 hw) (w_39 hw) (w_40 hw) rfl (by decide) (Nat.le_of_eq rfl) (by decide) d0_1 rfl ?_
  intro T1 X2
  refine o_aloadN (pc' := 5) (v := (.ref a)) X2 d0_4 rfl rfl rfl ?_
  refine o_aloadN (pc' := 6) (v := (.ref a)) X2 d0_5 rfl rfl rfl ?_
  obtain ⟨u3, fu3⟩ := fld_laid F0_a F1_a.known (w_17 hw) (Or.inl (w_42 hw))
  refine o_putF (pc' := 9) (v' := (.ref a)) (ty := (.object "java/lang/Throwable")) X2 (w_41 hw) Via.refl fu3 F0_a (Or.inl (w_42 hw)) (w_17 hw) (by decide) rfl rfl d0_6 rfl (by omega) (Or.inl (by simp)) (own_safe0 _) ?_
  intro T4 h4 X4 W4 C4
  have z4 := W4.size
  have f5 : Fld Z h4 a "java/lang/Throwable" "cause" "Ljava/lang/Throwable;" (.ref a) := fu3.same W4
  refine o_aloadN (pc' := 10) (v := (.ref a)) X4 d0_9 rfl rfl rfl ?_
  refine o_getS (pc' := 13) X4 (w_43 hw) Via.refl (S_Throwable_UNASSIGNED_STACK.ext X4.old.2) d0_10 rfl ?_
  intro T6 X7
  have f9 := (F0_a.wr W4)
  have f10 := (F1_a.wr W4)
  obtain ⟨u8, fu8⟩ := fld_laid f9 f10.known (w_17 hw) (Or.inl (w_45 hw))
  refine o_putF (pc' := 16) (v' := (.ref ust)) (ty := (.array (.object "java/lang/StackTraceElement"))) X7 (w_44 hw) Via.refl fu8 f9 (Or.inl (w_45 hw)) (w_17 hw) (by decide) rfl rfl d0_13 rfl (by omega) (Or.inl (by simp)) (own_safe0 _) ?_
  intro T11 h11 X11 W11 C11
  have z11 := W11.size
  have f12 : Fld Z h11 a "java/lang/Throwable" "stackTrace" "[Ljava/lang/StackTraceElement;" (.ref ust) := fu8.same W11
  refine o_aloadN (pc' := 17) (v := (.ref a)) X11 d0_16 rfl rfl rfl ?_
  refine o_getS (pc' := 20) X11 (w_46 hw) Via.refl (S_Throwable_SUPPRESSED_SENTINEL.ext X11.old.2) d0_17 rfl ?_
  intro T13 X14
  have f16 := (f9.wr W11)
  have f17 := (f10.wr W11)
  obtain ⟨u15, fu15⟩ := fld_laid f16 f17.known (w_17 hw) (Or.inl (w_48 hw))
  refine o_putF (pc' := 23) (v' := sen) (ty := (.object "java/util/List")) X14 (w_47 hw) Via.refl fu15 f16 (Or.inl (w_48 hw)) (w_17 hw) (by decide) (by rcases ref_cases hsen with q | ⟨_, q⟩ <;> rw [q] <;> rfl) (by rcases ref_cases hsen with q | ⟨_, q⟩ <;> rw [q] <;> rfl) d0_20 rfl (by omega) (Or.inl (by simp)) (own_safe0 _) ?_
  intro T18 h18 X18 W18 C18
  have z18 := W18.size
  have f19 : Fld Z h18 a "java/lang/Throwable" "suppressedExceptions" "Ljava/util/List;" sen := fu15.same W18
  refine o_aloadN (pc' := 24) (v := (.ref a)) X18 d0_23 rfl rfl rfl ?_
  have f20 := (f16.wr W18)
  have f21 := (f17.wr W18)
  have f22 := (((F2_a_backtrace.other W4 (Or.inr (slot_ne (Or.inl (w_73 hw)) (Or.inl (w_42 hw)) (by decide) (t := (.object "java/lang/Object")) (t' := (.object "java/lang/Throwable")) (by decide) (by decide)))).other W11 (Or.inr (slot_ne (Or.inl (w_73 hw)) (Or.inl (w_45 hw)) (by decide) (t := (.object "java/lang/Object")) (t' := (.array (.object "java/lang/StackTraceElement"))) (by decide) (by decide)))).other W18 (Or.inr (slot_ne (Or.inl (w_73 hw)) (Or.inl (w_48 hw)) (by decide) (t := (.object "java/lang/Object")) (t' := (.object "java/util/List")) (by decide) (by decide))))
  have f23 := (f12.other W18 (Or.inr (slot_ne (Or.inl (w_45 hw)) (Or.inl (w_48 hw)) (by decide) (t := (.array (.object "java/lang/StackTraceElement"))) (t' := (.object "java/util/List")) (by decide) (by decide))))
  have na24 : n0 ≤ a := by omega
  refine o_virtual (pc' := 27) (argsL := []) (rest := []) (kc := 1) (ks := 2752) (Q := fun v h (_ : Vm) L => QF Z h18 a v h L) (b := a) (ws' := [a]) X18 f20 (w_49 hw) (w_50 hw) (w_52 hw) (w_51 hw) (nf_sel (w_52 hw)) (by decide) (lenOf pd_0 rfl) (back_road (ws' := [a]) X18 (own_fill (W := 0) X18 hst (hws_fill hw) (w_17 hw) O0 f20 f21 f22 f23 (S_Throwable_UNASSIGNED_STACK.ext X18.old.2) (by decide) (by decide)) (fun _ _ _ q => keep_of_kp q.2.2) (own_sfS (own_safe0 _) (fun _ q => nomatch q))) d0_24 rfl rfl rfl (Nat.le_of_eq rfl) (by decide) (by decide) (fun _ _ _ _ q => ⟨fun x hx => by rw [q.2.1 x hx]; exact na24, keep_of_kp q.2.2⟩) (allS ⟨by omega, (Or.inl (by simp))⟩ all0) ?_
  intro v25 T25 h25 L25 vm25 X25 Q25 K25 C25
  have z25 := K25.1
  obtain ⟨rfl, -, Kp26⟩ := Q25
  have Un26 := Unt.kp Kp26 f21
  show Go p.tables e below _ (T25.setTop (mkF m 27 #[.val (.ref a), .val msg] [(.ref a)]))
  refine o_pop (pc' := 28) X25 d0_27 rfl rfl ?_
  refine o_aloadN (pc' := 29) (v := (.ref a)) X25 d0_28 rfl rfl rfl ?_
  refine o_aloadN (pc' := 30) (v := msg) X25 d0_29 rfl rfl r_msg ?_
  have f28 := (f20.keep K25)
  obtain ⟨u27, fu27⟩ := fld_laid f28 Un26.known (w_17 hw) (Or.inl (w_72 hw))
  refine o_putF (pc' := 33) (v' := msg) (ty := (.object "java/lang/String")) X25 (w_76 hw) Via.refl fu27 f28 (Or.inl (w_72 hw)) (w_17 hw) (by decide) (by rcases ref_cases r_msg with q | ⟨_, q⟩ <;> rw [q] <;> rfl) (by rcases ref_cases r_msg with q | ⟨_, q⟩ <;> rw [q] <;> rfl) d0_30 rfl (by omega) (Or.inl (by simp)) (own_safe0 _) ?_
  intro T29 h29 X29 W29 C29
  have z29 := W29.size
  have f30 : Fld Z h29 a "java/lang/Throwable" "detailMessage" "Ljava/lang/String;" msg := fu27.same W29
  have f31 := (f28.wr W29)
  have f32 := (Un26.wr W29)
  exact o_ret X29 d0_33 rfl (by decide) (by decide) (fun vm_ CC => ⟨rfl, f31, f32, f30⟩)
theorem ef_ctor1 (m : MethodId) (x0 : Addr) (x1 : Value) (r1 : x1.isRef = true) : entryFrame m #[(.ref x0), x1] 2 = mkF m 0 #[.val (.ref x0), .val x1] [] := by
  rcases ref_cases r1 with rfl | ⟨q1, rfl⟩ <;> first | rfl | (simp [entryFrame, mkF, argsToLocals, Value.category, maxLocals]; done)
theorem pn_java_lang_Exception : plainName "java/lang/Exception" = true := by first | (simp [plainName, overriddenIn]; done) | decide +kernel
theorem d1_0 : decode jdk_59_method_2_code 0 = .ok (.aload_n 0, 1) := by decide +kernel
theorem d1_1 : decode jdk_59_method_2_code 1 = .ok (.aload_n 1, 1) := by decide +kernel
theorem d1_2 : decode jdk_59_method_2_code 2 = .ok (.invokespecial 7, 3) := by decide +kernel
theorem pd_1 : parseMethodDescriptor "(Ljava/lang/String;)V" = some ⟨[(.object "java/lang/String")], none⟩ := by decide +kernel
theorem d1_5 : decode jdk_59_method_2_code 5 = .ok (.return_, 1) := by decide +kernel
def Q_ctor1 (Z : State) (a : Addr) (msg : Value) (h0 : Heap) (v : Option Value) (h : Heap) (vm : Vm) : Prop := v = none ∧ Exa Z h a "com/example/earnest_trail/earnesttrail/ApiException" ∧ Unt h a ∧ Fld Z h a "java/lang/Throwable" "detailMessage" "Ljava/lang/String;" msg
set_option maxRecDepth 65536 in
set_option maxHeartbeats 40000000 in
theorem rm_ctor1 (l : Launch) (Z : State) (a0 : Array Value) (hw : ∀ d ∈ tables_1, d.before a0 Z = true) (wl : List Jvm.Cond) (zc : Int32) (ust : Addr) (sen : Value) (S_String_COMPACT_STRINGS : Sta Z Z.heap "java/lang/String" "COMPACT_STRINGS" "Z" (.int zc)) (hzc : ¬ (zc = (0 : Int32))) (hEW : EW Z a0 []) (hst : l.stackTraces = true) (S_Throwable_UNASSIGNED_STACK : Sta Z Z.heap "java/lang/Throwable" "UNASSIGNED_STACK" "[Ljava/lang/StackTraceElement;" (.ref ust)) (S_Throwable_SUPPRESSED_SENTINEL : Sta Z Z.heap "java/lang/Throwable" "SUPPRESSED_SENTINEL" "Ljava/util/List;" sen) (hsen : sen.isRef = true) (a : Addr) (msg : Value) (h0 : Heap) (n0 : Nat) (O0 : Old Z n0 h0) (F0_a : Exa Z h0 a "com/example/earnest_trail/earnesttrail/ApiException") (F1_a : Unt h0 a) (F2_a_backtrace : Fld Z h0 a "java/lang/Throwable" "backtrace" "Ljava/lang/Object;" .null) (n0_a : n0 ≤ a) (r_msg : msg.isRef = true) :
    Met l (⟨"java/lang/Exception", "<init>", "(Ljava/lang/String;)V"⟩ : MethodName) jdk_59_method_2_code 2 none wl ({ frames := 4, cells := 1, slots := 2752, locals := 55 } : Room) Z #[(.ref a), msg] h0 n0 [a] [] true [] (Q_ctor1 Z a msg h0) := by
  refine met_intro (own := "java/lang/Exception") (nm := "<init>") pn_java_lang_Exception rfl rfl O0 hEW ?_
  intro p e s m below meth cC T0 X0 hsf0
  refine Go.cast (ef_ctor1 m (a) (msg) r_msg) ?_
  have n0le := X0.n0le
  have lt_a : h0.size > a := F0_a.lt
  refine o_aloadN (pc' := 1) (v := (.ref a)) X0 d1_0 rfl rfl rfl ?_
  refine o_aloadN (pc' := 2) (v := msg) X0 d1_1 rfl rfl r_msg ?_
  refine o_special (pc' := 5) (argsL := [msg]) (rest := []) (b := a) (ws' := [a]) X0 rfl (w_32 hw) (w_33 hw) (w_37 hw) (by decide) (lenOf pd_1 rfl) (back_met (W := 0) (rm_ctor0 l Z a0 hw [] zc ust sen S_String_COMPACT_STRINGS hzc hEW hst S_Throwable_UNASSIGNED_STACK S_Throwable_SUPPRESSED_SENTINEL hsen (a) (msg) h0 n0 X0.old F0_a F1_a F2_a_backtrace (by omega) r_msg) X0 (w_37 hw) (w_36 hw) (by decide) (by decide) (fun _ q => nomatch q)) d1_2 rfl rfl rfl (Nat.le_of_eq rfl) (by decide) (by decide) qq_fr (allS ⟨by omega, (Or.inl (by simp))⟩ all0) ?_
  rintro v1 T1 h1 L1 vm1 X1 ⟨-, -, Q1⟩ K1 C1
  have z1 := K1.1
  obtain ⟨rfl, q2, q3, q4⟩ := Q1
  show Go p.tables e below _ (T1.setTop (mkF m 5 #[.val (.ref a), .val msg] []))
  exact o_ret X1 d1_5 rfl (by decide) (by decide) (fun vm_ CC => ⟨rfl, q2, q3, q4⟩)
theorem ef_ctor2 (m : MethodId) (x0 : Addr) (x1 : Value) (r1 : x1.isRef = true) : entryFrame m #[(.ref x0), x1] 2 = mkF m 0 #[.val (.ref x0), .val x1] [] := by
  rcases ref_cases r1 with rfl | ⟨q1, rfl⟩ <;> first | rfl | (simp [entryFrame, mkF, argsToLocals, Value.category, maxLocals]; done)
theorem pn_java_lang_RuntimeException : plainName "java/lang/RuntimeException" = true := by first | (simp [plainName, overriddenIn]; done) | decide +kernel
theorem d2_0 : decode jdk_58_method_2_code 0 = .ok (.aload_n 0, 1) := by decide +kernel
theorem d2_1 : decode jdk_58_method_2_code 1 = .ok (.aload_n 1, 1) := by decide +kernel
theorem d2_2 : decode jdk_58_method_2_code 2 = .ok (.invokespecial 7, 3) := by decide +kernel
theorem d2_5 : decode jdk_58_method_2_code 5 = .ok (.return_, 1) := by decide +kernel
def Q_ctor2 (Z : State) (a : Addr) (msg : Value) (h0 : Heap) (v : Option Value) (h : Heap) (vm : Vm) : Prop := v = none ∧ Exa Z h a "com/example/earnest_trail/earnesttrail/ApiException" ∧ Unt h a ∧ Fld Z h a "java/lang/Throwable" "detailMessage" "Ljava/lang/String;" msg
set_option maxRecDepth 65536 in
set_option maxHeartbeats 40000000 in
theorem rm_ctor2 (l : Launch) (Z : State) (a0 : Array Value) (hw : ∀ d ∈ tables_1, d.before a0 Z = true) (wl : List Jvm.Cond) (zc : Int32) (ust : Addr) (sen : Value) (S_String_COMPACT_STRINGS : Sta Z Z.heap "java/lang/String" "COMPACT_STRINGS" "Z" (.int zc)) (hzc : ¬ (zc = (0 : Int32))) (hEW : EW Z a0 []) (hst : l.stackTraces = true) (S_Throwable_UNASSIGNED_STACK : Sta Z Z.heap "java/lang/Throwable" "UNASSIGNED_STACK" "[Ljava/lang/StackTraceElement;" (.ref ust)) (S_Throwable_SUPPRESSED_SENTINEL : Sta Z Z.heap "java/lang/Throwable" "SUPPRESSED_SENTINEL" "Ljava/util/List;" sen) (hsen : sen.isRef = true) (a : Addr) (msg : Value) (h0 : Heap) (n0 : Nat) (O0 : Old Z n0 h0) (F0_a : Exa Z h0 a "com/example/earnest_trail/earnesttrail/ApiException") (F1_a : Unt h0 a) (F2_a_backtrace : Fld Z h0 a "java/lang/Throwable" "backtrace" "Ljava/lang/Object;" .null) (n0_a : n0 ≤ a) (r_msg : msg.isRef = true) :
    Met l (⟨"java/lang/RuntimeException", "<init>", "(Ljava/lang/String;)V"⟩ : MethodName) jdk_58_method_2_code 2 none wl ({ frames := 5, cells := 1, slots := 2752, locals := 68 } : Room) Z #[(.ref a), msg] h0 n0 [a] [] true [] (Q_ctor2 Z a msg h0) := by
  refine met_intro (own := "java/lang/RuntimeException") (nm := "<init>") pn_java_lang_RuntimeException rfl rfl O0 hEW ?_
  intro p e s m below meth cC T0 X0 hsf0
  refine Go.cast (ef_ctor2 m (a) (msg) r_msg) ?_
  have n0le := X0.n0le
  have lt_a : h0.size > a := F0_a.lt
  refine o_aloadN (pc' := 1) (v := (.ref a)) X0 d2_0 rfl rfl rfl ?_
  refine o_aloadN (pc' := 2) (v := msg) X0 d2_1 rfl rfl r_msg ?_
  refine o_special (pc' := 5) (argsL := [msg]) (rest := []) (b := a) (ws' := [a]) X0 rfl (w_26 hw) (w_27 hw) (w_31 hw) (by decide) (lenOf pd_1 rfl) (back_met (W := 0) (rm_ctor1 l Z a0 hw [] zc ust sen S_String_COMPACT_STRINGS hzc hEW hst S_Throwable_UNASSIGNED_STACK S_Throwable_SUPPRESSED_SENTINEL hsen (a) (msg) h0 n0 X0.old F0_a F1_a F2_a_backtrace (by omega) r_msg) X0 (w_31 hw) (w_30 hw) (by decide) (by decide) (fun _ q => nomatch q)) d2_2 rfl rfl rfl (Nat.le_of_eq rfl) (by decide) (by decide) qq_fr (allS ⟨by omega, (Or.inl (by simp))⟩ all0) ?_
  rintro v1 T1 h1 L1 vm1 X1 ⟨-, -, Q1⟩ K1 C1
  have z1 := K1.1
  obtain ⟨rfl, q2, q3, q4⟩ := Q1
  show Go p.tables e below _ (T1.setTop (mkF m 5 #[.val (.ref a), .val msg] []))
  exact o_ret X1 d2_5 rfl (by decide) (by decide) (fun vm_ CC => ⟨rfl, q2, q3, q4⟩)
theorem ef_canEnc (m : MethodId) (x0 : Int32) : entryFrame m #[(.int x0)] 1 = mkF m 0 #[.val (.int x0)] [] := by first | rfl | (simp [entryFrame, mkF, argsToLocals, Value.category, maxLocals]; done)
theorem pn_java_lang_StringLatin1 : plainName "java/lang/StringLatin1" = true := by first | (simp [plainName, overriddenIn]; done) | decide +kernel
theorem d3_0 : decode jdk_43_method_3_code 0 = .ok (.iload_n 0, 1) := by decide +kernel
theorem d3_1 : decode jdk_43_method_3_code 1 = .ok (.sipush 255, 3) := by decide +kernel
theorem d3_4 : decode jdk_43_method_3_code 4 = .ok (.if_icmp .gt 7, 3) := by decide +kernel
theorem d3_7 : decode jdk_43_method_3_code 7 = .ok (.iconst 1, 1) := by decide +kernel
theorem d3_8 : decode jdk_43_method_3_code 8 = .ok (.goto 4, 3) := by decide +kernel
theorem d3_12 : decode jdk_43_method_3_code 12 = .ok (.ireturn, 1) := by decide +kernel
def Q_canEnc (Z : State) (c : Int32) (h0 : Heap) (v : Option Value) (h : Heap) (vm : Vm) : Prop := v = some (.int (1 : Int32))
set_option maxRecDepth 65536 in
set_option maxHeartbeats 40000000 in
theorem rm_canEnc (l : Launch) (Z : State) (a0 : Array Value) (hw : ∀ d ∈ tables_1, d.before a0 Z = true) (wl : List Jvm.Cond) (zc : Int32) (ust : Addr) (sen : Value) (S_String_COMPACT_STRINGS : Sta Z Z.heap "java/lang/String" "COMPACT_STRINGS" "Z" (.int zc)) (hzc : ¬ (zc = (0 : Int32))) (hEW : EW Z a0 []) (hst : l.stackTraces = true) (S_Throwable_UNASSIGNED_STACK : Sta Z Z.heap "java/lang/Throwable" "UNASSIGNED_STACK" "[Ljava/lang/StackTraceElement;" (.ref ust)) (S_Throwable_SUPPRESSED_SENTINEL : Sta Z Z.heap "java/lang/Throwable" "SUPPRESSED_SENTINEL" "Ljava/util/List;" sen) (hsen : sen.isRef = true) (c : Int32) (h0 : Heap) (n0 : Nat) (O0 : Old Z n0 h0) (rc : ¬ c < 0 ∧ ¬ (255 : Int32) < c) :
    Met l (⟨"java/lang/StringLatin1", "canEncode", "(C)Z"⟩ : MethodName) jdk_43_method_3_code 1 (some .boolean) wl ({ frames := 0, cells := 0, slots := 0, locals := 0 } : Room) Z #[(.int c)] h0 n0 [] [] true [] (Q_canEnc Z c h0) := by
  refine met_intro (own := "java/lang/StringLatin1") (nm := "canEncode") pn_java_lang_StringLatin1 rfl rfl O0 hEW ?_
  intro p e s m below meth cC T0 X0 hsf0
  refine Go.cast (ef_canEnc m (c) ) ?_
  have n0le := X0.n0le
  refine o_iloadN (pc' := 1) (v := c) X0 d3_0 rfl rfl ?_
  refine o_sipush (pc' := 4) (v := (255 : Int32)) X0 d3_1 rfl (by decide) ?_
  refine o_icmpNo (pc' := 7) X0 d3_4 rfl (flt rc.2).2.2.1 ?_
  refine o_iconst (pc' := 8) (v := (1 : Int32)) X0 d3_7 rfl (by decide) ?_
  refine o_goto (pc' := 12) X0 d3_8 (by decide) (by decide) ?_
  exact o_nret (y := (1 : Int32)) (t := .boolean) X0 d3_12 rfl (by decide) (by simp) (by decide) (by decide) (fun vm_ CC => rfl)
theorem ef_toBytesC (m : MethodId) (x0 : Int32) : entryFrame m #[(.int x0)] 1 = mkF m 0 #[.val (.int x0)] [] := by first | rfl | (simp [entryFrame, mkF, argsToLocals, Value.category, maxLocals]; done)
theorem d4_0 : decode jdk_43_method_46_code 0 = .ok (.iconst 1, 1) := by decide +kernel
theorem d4_1 : decode jdk_43_method_46_code 1 = .ok (.newarray .byte, 2) := by decide +kernel
theorem d4_3 : decode jdk_43_method_46_code 3 = .ok (.dup, 1) := by decide +kernel
theorem d4_4 : decode jdk_43_method_46_code 4 = .ok (.iconst 0, 1) := by decide +kernel
theorem d4_5 : decode jdk_43_method_46_code 5 = .ok (.iload_n 0, 1) := by decide +kernel
theorem d4_6 : decode jdk_43_method_46_code 6 = .ok (.i2b, 1) := by decide +kernel
theorem d4_7 : decode jdk_43_method_46_code 7 = .ok (.bastore, 1) := by decide +kernel
theorem d4_8 : decode jdk_43_method_46_code 8 = .ok (.areturn, 1) := by decide +kernel
def Q_toBytesC (Z : State) (c : Int32) (h0 : Heap) (v : Option Value) (h : Heap) (vm : Vm) : Prop := ∃ (b : Addr) (kb : ClassId), v = some (.ref b) ∧ Arv Z h b kb .byte (1 : Int32) (own_bs [c]) (.int (0 : Int32)) ∧ h0.size ≤ b ∧ h.size > b
set_option maxRecDepth 65536 in
set_option maxHeartbeats 40000000 in
theorem rm_toBytesC (l : Launch) (Z : State) (a0 : Array Value) (hw : ∀ d ∈ tables_1, d.before a0 Z = true) (wl : List Jvm.Cond) (zc : Int32) (ust : Addr) (sen : Value) (S_String_COMPACT_STRINGS : Sta Z Z.heap "java/lang/String" "COMPACT_STRINGS" "Z" (.int zc)) (hzc : ¬ (zc = (0 : Int32))) (hEW : EW Z a0 []) (hst : l.stackTraces = true) (S_Throwable_UNASSIGNED_STACK : Sta Z Z.heap "java/lang/Throwable" "UNASSIGNED_STACK" "[Ljava/lang/StackTraceElement;" (.ref ust)) (S_Throwable_SUPPRESSED_SENTINEL : Sta Z Z.heap "java/lang/Throwable" "SUPPRESSED_SENTINEL" "Ljava/util/List;" sen) (hsen : sen.isRef = true) (c : Int32) (h0 : Heap) (n0 : Nat) (O0 : Old Z n0 h0)  :
    Met l (⟨"java/lang/StringLatin1", "toBytes", "(C)[B"⟩ : MethodName) jdk_43_method_46_code 1 (some (.array .byte)) wl ({ frames := 0, cells := 1, slots := 1, locals := 0 } : Room) Z #[(.int c)] h0 n0 [] [] true [] (Q_toBytesC Z c h0) := by
  refine met_intro (own := "java/lang/StringLatin1") (nm := "toBytes") pn_java_lang_StringLatin1 rfl rfl O0 hEW ?_
  intro p e s m below meth cC T0 X0 hsf0
  refine Go.cast (ef_toBytesC m (c) ) ?_
  have n0le := X0.n0le
  refine o_iconst (pc' := 1) (v := (1 : Int32)) X0 d4_0 rfl (by decide) ?_
  refine o_newP (pc' := 3) (aty := .byte) (cap := 1) X0 (w_7 hw) d4_1 rfl (by decide) (by decide) (by decide) (by decide) (by decide) (ad := "[B") (by decide +kernel) ?_
  intro T1 h1 b1 k1 X1 g1 l1 E1 V1 A1 C1 S1
  have V2 : Arv Z h1 b1 k1 .byte (1 : Int32) [(.int (0 : Int32))] (.int (0 : Int32)) := V1.pad (pad_rep [] (.int (0 : Int32)) 1)
  refine o_dup (pc' := 4) X1 d4_3 rfl rfl ?_
  refine o_iconst (pc' := 5) (v := (0 : Int32)) X1 d4_4 rfl (by decide) ?_
  refine o_iloadN (pc' := 6) (v := c) X1 d4_5 rfl rfl ?_
  refine o_i2b (pc' := 7) (v := (c.toInt8.toInt32)) X1 d4_6 rfl rfl ?_
  refine o_stB (pc' := 8) (i := 0) (y := (c.toInt8.toInt32)) X1 V2 ⟨by decide, by decide⟩ (by decide) (Nat.le_of_ble_eq_true rfl) (own_narB _) d4_7 rfl (by omega) (Or.inr (by omega)) (own_safe0 _) ?_
  rintro T3 h3 X3 ⟨sl3, ww3, W3⟩ C3 V3
  have z3 := W3.size
  have V4 : Arv Z h3 b1 k1 .byte (1 : Int32) [(.int (c.toInt8.toInt32))] (.int (0 : Int32)) := V3
  exact o_aret X3 d4_8 rfl rfl rfl (by decide) (by decide) (fun vm_ CC => ⟨b1, k1, rfl, V4, (by omega), (by omega)⟩)
theorem ef_strInitB (m : MethodId) (x0 : Addr) (x1 : Addr) (x2 : Int32) : entryFrame m #[(.ref x0), (.ref x1), (.int x2)] 3 = mkF m 0 #[.val (.ref x0), .val (.ref x1), .val (.int x2)] [] := by first | rfl | (simp [entryFrame, mkF, argsToLocals, Value.category, maxLocals]; done)
theorem pn_java_lang_String : plainName "java/lang/String" = true := by first | (simp [plainName, overriddenIn]; done) | decide +kernel
theorem d5_0 : decode jdk_42_method_151_code 0 = .ok (.aload_n 0, 1) := by decide +kernel
theorem d5_1 : decode jdk_42_method_151_code 1 = .ok (.invokespecial 1, 3) := by decide +kernel
theorem d5_4 : decode jdk_42_method_151_code 4 = .ok (.aload_n 0, 1) := by decide +kernel
theorem d5_5 : decode jdk_42_method_151_code 5 = .ok (.aload_n 1, 1) := by decide +kernel
theorem d5_6 : decode jdk_42_method_151_code 6 = .ok (.putfield 9, 3) := by decide +kernel
theorem d5_9 : decode jdk_42_method_151_code 9 = .ok (.aload_n 0, 1) := by decide +kernel
theorem d5_10 : decode jdk_42_method_151_code 10 = .ok (.iload_n 2, 1) := by decide +kernel
theorem d5_11 : decode jdk_42_method_151_code 11 = .ok (.putfield 15, 3) := by decide +kernel
theorem d5_14 : decode jdk_42_method_151_code 14 = .ok (.return_, 1) := by decide +kernel
def Q_strInitB (Z : State) (a : Addr) (t : Addr) (u1 : Value) (u2 : Value) (h0 : Heap) (v : Option Value) (h : Heap) (vm : Vm) : Prop := v = none ∧ Exa Z h a "java/lang/String" ∧ Fld Z h a "java/lang/String" "value" "[B" (.ref t) ∧ Fld Z h a "java/lang/String" "coder" "B" (.int (0 : Int32))
set_option maxRecDepth 65536 in
set_option maxHeartbeats 40000000 in
theorem rm_strInitB (l : Launch) (Z : State) (a0 : Array Value) (hw : ∀ d ∈ tables_1, d.before a0 Z = true) (wl : List Jvm.Cond) (zc : Int32) (ust : Addr) (sen : Value) (S_String_COMPACT_STRINGS : Sta Z Z.heap "java/lang/String" "COMPACT_STRINGS" "Z" (.int zc)) (hzc : ¬ (zc = (0 : Int32))) (hEW : EW Z a0 []) (hst : l.stackTraces = true) (S_Throwable_UNASSIGNED_STACK : Sta Z Z.heap "java/lang/Throwable" "UNASSIGNED_STACK" "[Ljava/lang/StackTraceElement;" (.ref ust)) (S_Throwable_SUPPRESSED_SENTINEL : Sta Z Z.heap "java/lang/Throwable" "SUPPRESSED_SENTINEL" "Ljava/util/List;" sen) (hsen : sen.isRef = true) (a : Addr) (t : Addr) (u1 : Value) (u2 : Value) (h0 : Heap) (n0 : Nat) (O0 : Old Z n0 h0) (F0_a : Exa Z h0 a "java/lang/String") (F1_a_value : Fld Z h0 a "java/lang/String" "value" "[B" u1) (F2_a_coder : Fld Z h0 a "java/lang/String" "coder" "B" u2) (n0_a : n0 ≤ a) :
    Met l (⟨"java/lang/String", "<init>", "([BB)V"⟩ : MethodName) jdk_42_method_151_code 3 none wl ({ frames := 1, cells := 0, slots := 0, locals := 12 } : Room) Z #[(.ref a), (.ref t), (.int (0 : Int32))] h0 n0 [a] [] true [] (Q_strInitB Z a t u1 u2 h0) := by
  refine met_intro (own := "java/lang/String") (nm := "<init>") pn_java_lang_String rfl rfl O0 hEW ?_
  intro p e s m below meth cC T0 X0 hsf0
  refine Go.cast (ef_strInitB m (a) (t) ((0 : Int32)) ) ?_
  have n0le := X0.n0le
  have lt_a : h0.size > a := F0_a.lt
  refine o_aloadN (pc' := 1) (v := (.ref a)) X0 d5_0 rfl rfl rfl ?_
  refine o_initO (pc' := 4) (W := 0) X0 (w_99 hw) (w_39 hw) (w_40 hw) rfl (by decide) (Nat.le_of_eq rfl) (by decide) d5_1 rfl ?_
  intro T1 X2
  refine o_aloadN (pc' := 5) (v := (.ref a)) X2 d5_4 rfl rfl rfl ?_
  refine o_aloadN (pc' := 6) (v := (.ref t)) X2 d5_5 rfl rfl rfl ?_
  refine o_putF (pc' := 9) (v' := (.ref t)) (ty := (.array .byte)) X2 (w_112 hw) Via.refl F1_a_value F0_a (Or.inr ⟨(w_8 hw), rfl, rfl⟩) (w_6 hw) (by decide) rfl rfl d5_6 rfl (by omega) (Or.inl (by simp)) (own_safe0 _) ?_
  intro T3 h3 X3 W3 C3
  have z3 := W3.size
  have f4 : Fld Z h3 a "java/lang/String" "value" "[B" (.ref t) := F1_a_value.same W3
  refine o_aloadN (pc' := 10) (v := (.ref a)) X3 d5_9 rfl rfl rfl ?_
  refine o_iloadN (pc' := 11) (v := (0 : Int32)) X3 d5_10 rfl rfl ?_
  have f5 := (F2_a_coder.other W3 (Or.inr (slot_ne (Or.inr (w_9 hw)) (Or.inr (w_8 hw)) (by decide) (t := .byte) (t' := (.array .byte)) (by decide) (by decide))))
  have f6 := (F0_a.wr W3)
  refine o_putF (pc' := 14) (v' := (.int (0 : Int32))) (ty := .byte) X3 (w_111 hw) Via.refl f5 f6 (Or.inr ⟨(w_9 hw), rfl, rfl⟩) (w_6 hw) (by decide) rfl rfl d5_11 rfl (by omega) (Or.inl (by simp)) (own_safe0 _) ?_
  intro T7 h7 X7 W7 C7
  have z7 := W7.size
  have f8 : Fld Z h7 a "java/lang/String" "coder" "B" (.int (0 : Int32)) := f5.same W7
  have f9 := (f6.wr W7)
  have f10 := (f4.other W7 (Or.inr (slot_ne (Or.inr (w_8 hw)) (Or.inr (w_9 hw)) (by decide) (t := (.array .byte)) (t' := .byte) (by decide) (by decide))))
  exact o_ret X7 d5_14 rfl (by decide) (by decide) (fun vm_ CC => ⟨rfl, f9, f10, f8⟩)
theorem ef_strValueOfC (m : MethodId) (x0 : Int32) : entryFrame m #[(.int x0)] 1 = mkF m 0 #[.val (.int x0)] [] := by first | rfl | (simp [entryFrame, mkF, argsToLocals, Value.category, maxLocals]; done)
theorem d6_0 : decode jdk_42_method_139_code 0 = .ok (.getstatic 38, 3) := by decide +kernel
theorem d6_3 : decode jdk_42_method_139_code 3 = .ok (.ifCond .eq 23, 3) := by decide +kernel
theorem d6_6 : decode jdk_42_method_139_code 6 = .ok (.iload_n 0, 1) := by decide +kernel
theorem d6_7 : decode jdk_42_method_139_code 7 = .ok (.invokestatic 1015, 3) := by decide +kernel
theorem pd_2 : parseMethodDescriptor "(C)Z" = some ⟨[.char], (some .boolean)⟩ := by decide +kernel
theorem d6_10 : decode jdk_42_method_139_code 10 = .ok (.ifCond .eq 16, 3) := by decide +kernel
theorem d6_13 : decode jdk_42_method_139_code 13 = .ok (.new 10, 3) := by decide +kernel
theorem d6_16 : decode jdk_42_method_139_code 16 = .ok (.dup, 1) := by decide +kernel
theorem d6_17 : decode jdk_42_method_139_code 17 = .ok (.iload_n 0, 1) := by decide +kernel
theorem d6_18 : decode jdk_42_method_139_code 18 = .ok (.invokestatic 1018, 3) := by decide +kernel
theorem pd_3 : parseMethodDescriptor "(C)[B" = some ⟨[.char], (some (.array .byte))⟩ := by decide +kernel
theorem d6_21 : decode jdk_42_method_139_code 21 = .ok (.iconst 0, 1) := by decide +kernel
theorem d6_22 : decode jdk_42_method_139_code 22 = .ok (.invokespecial 209, 3) := by decide +kernel
theorem pd_4 : parseMethodDescriptor "([BB)V" = some ⟨[(.array .byte), .byte], none⟩ := by decide +kernel
theorem d6_25 : decode jdk_42_method_139_code 25 = .ok (.areturn, 1) := by decide +kernel
def Q_strValueOfC (Z : State) (c : Int32) (h0 : Heap) (v : Option Value) (h : Heap) (vm : Vm) : Prop := ∃ (r : Addr) (t : Addr) (kb : ClassId), v = some (.ref r) ∧ Exa Z h r "java/lang/String" ∧ Fld Z h r "java/lang/String" "coder" "B" (.int (0 : Int32)) ∧ Fld Z h r "java/lang/String" "value" "[B" (.ref t) ∧ Arv Z h t kb .byte (1 : Int32) (own_bs [c]) (.int (0 : Int32)) ∧ h0.size ≤ r ∧ h0.size ≤ t ∧ h.size > r ∧ h.size > t
set_option maxRecDepth 65536 in
set_option maxHeartbeats 40000000 in
theorem rm_strValueOfC (l : Launch) (Z : State) (a0 : Array Value) (hw : ∀ d ∈ tables_1, d.before a0 Z = true) (wl : List Jvm.Cond) (zc : Int32) (ust : Addr) (sen : Value) (S_String_COMPACT_STRINGS : Sta Z Z.heap "java/lang/String" "COMPACT_STRINGS" "Z" (.int zc)) (hzc : ¬ (zc = (0 : Int32))) (hEW : EW Z a0 []) (hst : l.stackTraces = true) (S_Throwable_UNASSIGNED_STACK : Sta Z Z.heap "java/lang/Throwable" "UNASSIGNED_STACK" "[Ljava/lang/StackTraceElement;" (.ref ust)) (S_Throwable_SUPPRESSED_SENTINEL : Sta Z Z.heap "java/lang/Throwable" "SUPPRESSED_SENTINEL" "Ljava/util/List;" sen) (hsen : sen.isRef = true) (c : Int32) (h0 : Heap) (n0 : Nat) (O0 : Old Z n0 h0) (rc : ¬ c < 0 ∧ ¬ (255 : Int32) < c) :
    Met l (⟨"java/lang/String", "valueOf", "(C)Ljava/lang/String;"⟩ : MethodName) jdk_42_method_139_code 1 (some (.object "java/lang/String")) wl ({ frames := 2, cells := 2, slots := 5, locals := 27 } : Room) Z #[(.int c)] h0 n0 [] [] true [] (Q_strValueOfC Z c h0) := by
  refine met_intro (own := "java/lang/String") (nm := "valueOf") pn_java_lang_String rfl rfl O0 hEW ?_
  intro p e s m below meth cC T0 X0 hsf0
  refine Go.cast (ef_strValueOfC m (c) ) ?_
  have n0le := X0.n0le
  refine o_getS (pc' := 3) X0 (w_100 hw) Via.refl (S_String_COMPACT_STRINGS.ext X0.old.2) d6_0 rfl ?_
  intro T1 X2
  refine o_ifNo (pc' := 6) X2 d6_3 rfl ((if0 _ _).trans (feq hzc).1) ?_
  refine o_iloadN (pc' := 7) (v := c) X2 d6_6 rfl rfl ?_
  refine o_static (pc' := 10) (argsL := [(.int c)]) (rest := []) (ws' := []) X2 (w_116 hw) (w_117 hw) (w_118 hw) (w_119 hw) (by decide) (lenOf pd_2 rfl) (back_met (W := 0) (rm_canEnc l Z a0 hw [] zc ust sen S_String_COMPACT_STRINGS hzc hEW hst S_Throwable_UNASSIGNED_STACK S_Throwable_SUPPRESSED_SENTINEL hsen (c) h0 n0 X2.old rc) X2 (w_119 hw) (w_118 hw) (by decide) (by decide) (fun _ q => nomatch q)) d6_7 rfl rfl rfl (Nat.le_of_eq rfl) (by decide) (by decide) qq_fr all0 ?_
  rintro v3 T3 h3 L3 vm3 X3 ⟨-, -, Q3⟩ K3 C3
  have z3 := K3.1
  obtain rfl := Q3
  show Go p.tables e below _ (T3.setTop (mkF m 10 #[.val (.int c)] [(.int (1 : Int32))]))
  refine o_ifNo (pc' := 13) X3 d6_10 rfl ((if0 _ _).trans (feq (by decide)).1) ?_
  refine o_new (pc' := 16) X3 (w_120 hw) (w_6 hw) (w_5 hw) d6_13 rfl (by decide) (by decide) ?_
  intro T4 h4 b4 X4 g4 l4 E4 A4 D4 U4 C4 S4
  have f5 : Fld Z h4 b4 "java/lang/String" "value" "[B" .null := D4 (Or.inr (w_8 hw)) (ty := (.array .byte)) (by decide)
  have f6 : Fld Z h4 b4 "java/lang/String" "coder" "B" (.int (0 : Int32)) := D4 (Or.inr (w_9 hw)) (ty := .byte) (by decide)
  refine o_dup (pc' := 17) X4 d6_16 rfl rfl ?_
  refine o_iloadN (pc' := 18) (v := c) X4 d6_17 rfl rfl ?_
  refine o_static (pc' := 21) (argsL := [(.int c)]) (rest := [(.ref b4), (.ref b4)]) (ws' := []) X4 (w_121 hw) (w_122 hw) (w_118 hw) (w_123 hw) (by decide) (lenOf pd_3 rfl) (back_met (W := 2) (rm_toBytesC l Z a0 hw [] zc ust sen S_String_COMPACT_STRINGS hzc hEW hst S_Throwable_UNASSIGNED_STACK S_Throwable_SUPPRESSED_SENTINEL hsen (c) h4 n0 X4.old ) X4 (w_123 hw) (w_118 hw) (by decide) (by decide) (fun _ q => nomatch q)) d6_18 rfl rfl rfl (Nat.le_of_eq rfl) (by decide) (by decide) qq_fr all0 ?_
  rintro v7 T7 h7 L7 vm7 X7 ⟨-, -, Q7⟩ K7 C7
  have z7 := K7.1
  obtain ⟨b_8, kb_9, rfl, q10, q11, q12⟩ := Q7
  show Go p.tables e below _ (T7.setTop (mkF m 21 #[.val (.int c)] [(.ref b_8), (.ref b4), (.ref b4)]))
  refine o_iconst (pc' := 22) (v := (0 : Int32)) X7 d6_21 rfl (by decide) ?_
  have f13 := (A4.keep K7)
  have f14 := (f5.keep K7 nin0)
  have f15 := (f6.keep K7 nin0)
  refine o_special (pc' := 25) (argsL := [(.ref b_8), (.int (0 : Int32))]) (rest := [(.ref b4)]) (b := b4) (ws' := [b4]) X7 rfl (w_124 hw) (w_125 hw) (w_126 hw) (by decide) (lenOf pd_4 rfl) (back_met (W := 1) (rm_strInitB l Z a0 hw [] zc ust sen S_String_COMPACT_STRINGS hzc hEW hst S_Throwable_UNASSIGNED_STACK S_Throwable_SUPPRESSED_SENTINEL hsen (b4) (b_8) (.null) ((.int (0 : Int32))) h7 n0 X7.old f13 f14 f15 (by omega)) X7 (w_126 hw) (w_5 hw) (by decide) (by decide) (fun _ q => nomatch q)) d6_22 rfl rfl rfl (Nat.le_of_eq rfl) (by decide) (by decide) qq_fr (allS ⟨by omega, (Or.inr (by omega))⟩ all0) ?_
  rintro v16 T16 h16 L16 vm16 X16 ⟨-, -, Q16⟩ K16 C16
  have z16 := K16.1
  obtain ⟨rfl, q17, q18, q19⟩ := Q16
  show Go p.tables e below _ (T16.setTop (mkF m 25 #[.val (.int c)] [(.ref b4)]))
  have f20 := (q10.keep K16 (ninS (own_ne (a := b_8) (b := b4) (by omega)) nin0))
  exact o_aret X16 d6_25 rfl rfl rfl (by decide) (by decide) (fun vm_ CC => ⟨b4, b_8, kb_9, rfl, q17, q19, q18, f20, (by omega), (by omega), (by omega), (by omega)⟩)
theorem ef_draw (m : MethodId) (x0 : Int32) (x1 : Int32) (x2 : Int32) (x3 : Int32) : entryFrame m #[(.int x0), (.int x1), (.int x2), (.int x3)] 5 = mkF m 0 #[.val (.int x0), .val (.int x1), .val (.int x2), .val (.int x3), .unset] [] := by first | rfl | (simp [entryFrame, mkF, argsToLocals, Value.category, maxLocals]; done)
theorem pn_com_example_earnest_trail_earnesttrail_ApiExceptionBadRequestPinLaw : plainName "com/example/earnest_trail/earnesttrail/ApiExceptionBadRequestPinLaw" = true := by first | (simp [plainName, overriddenIn]; done) | decide +kernel
theorem d7_0 : decode method_2_code 0 = .ok (.iload_n 0, 1) := by decide +kernel
theorem d7_1 : decode method_2_code 1 = .ok (.bipush 7, 2) := by decide +kernel
theorem d7_3 : decode method_2_code 3 = .ok (.iand, 1) := by decide +kernel
theorem d7_4 : decode method_2_code 4 = .ok (.istore 4, 2) := by decide +kernel
theorem d7_6 : decode method_2_code 6 = .ok (.iload 4, 2) := by decide +kernel
theorem d7_8 : decode method_2_code 8 = .ok (.ifCond .ne 6, 3) := by decide +kernel
theorem d7_11 : decode method_2_code 11 = .ok (.ldc 7, 2) := by decide +kernel
theorem d7_13 : decode method_2_code 13 = .ok (.areturn, 1) := by decide +kernel
theorem d7_14 : decode method_2_code 14 = .ok (.iload 4, 2) := by decide +kernel
theorem d7_16 : decode method_2_code 16 = .ok (.iconst 1, 1) := by decide +kernel
theorem d7_17 : decode method_2_code 17 = .ok (.if_icmp .ne 8, 3) := by decide +kernel
theorem d7_20 : decode method_2_code 20 = .ok (.iload_n 1, 1) := by decide +kernel
theorem d7_21 : decode method_2_code 21 = .ok (.invokestatic 9, 3) := by decide +kernel
theorem pd_5 : parseMethodDescriptor "(C)Ljava/lang/String;" = some ⟨[.char], (some (.object "java/lang/String"))⟩ := by decide +kernel
theorem d7_24 : decode method_2_code 24 = .ok (.areturn, 1) := by decide +kernel
theorem d7_25 : decode method_2_code 25 = .ok (.iload 4, 2) := by decide +kernel
theorem d7_27 : decode method_2_code 27 = .ok (.iconst 2, 1) := by decide +kernel
theorem d7_28 : decode method_2_code 28 = .ok (.if_icmp .ne 22, 3) := by decide +kernel
theorem d7_31 : decode method_2_code 31 = .ok (.new 10, 3) := by decide +kernel
theorem d7_34 : decode method_2_code 34 = .ok (.dup, 1) := by decide +kernel
theorem d7_35 : decode method_2_code 35 = .ok (.iconst 2, 1) := by decide +kernel
theorem d7_36 : decode method_2_code 36 = .ok (.newarray .char, 2) := by decide +kernel
theorem d7_38 : decode method_2_code 38 = .ok (.dup, 1) := by decide +kernel
theorem d7_39 : decode method_2_code 39 = .ok (.iconst 0, 1) := by decide +kernel
theorem d7_40 : decode method_2_code 40 = .ok (.iload_n 1, 1) := by decide +kernel
theorem d7_41 : decode method_2_code 41 = .ok (.castore, 1) := by decide +kernel
theorem d7_42 : decode method_2_code 42 = .ok (.dup, 1) := by decide +kernel
theorem d7_43 : decode method_2_code 43 = .ok (.iconst 1, 1) := by decide +kernel
theorem d7_44 : decode method_2_code 44 = .ok (.iload_n 2, 1) := by decide +kernel
theorem d7_45 : decode method_2_code 45 = .ok (.castore, 1) := by decide +kernel
theorem d7_46 : decode method_2_code 46 = .ok (.invokespecial 15, 3) := by decide +kernel
theorem pd_6 : parseMethodDescriptor "([C)V" = some ⟨[(.array .char)], none⟩ := by decide +kernel
theorem d7_49 : decode method_2_code 49 = .ok (.areturn, 1) := by decide +kernel
theorem d7_50 : decode method_2_code 50 = .ok (.iload 4, 2) := by decide +kernel
theorem d7_52 : decode method_2_code 52 = .ok (.iconst 3, 1) := by decide +kernel
theorem d7_53 : decode method_2_code 53 = .ok (.if_icmp .ne 26, 3) := by decide +kernel
theorem d7_56 : decode method_2_code 56 = .ok (.new 10, 3) := by decide +kernel
theorem d7_59 : decode method_2_code 59 = .ok (.dup, 1) := by decide +kernel
theorem d7_60 : decode method_2_code 60 = .ok (.iconst 3, 1) := by decide +kernel
theorem d7_61 : decode method_2_code 61 = .ok (.newarray .char, 2) := by decide +kernel
theorem d7_63 : decode method_2_code 63 = .ok (.dup, 1) := by decide +kernel
theorem d7_64 : decode method_2_code 64 = .ok (.iconst 0, 1) := by decide +kernel
theorem d7_65 : decode method_2_code 65 = .ok (.iload_n 1, 1) := by decide +kernel
theorem d7_66 : decode method_2_code 66 = .ok (.castore, 1) := by decide +kernel
theorem d7_67 : decode method_2_code 67 = .ok (.dup, 1) := by decide +kernel
theorem d7_68 : decode method_2_code 68 = .ok (.iconst 1, 1) := by decide +kernel
theorem d7_69 : decode method_2_code 69 = .ok (.iload_n 2, 1) := by decide +kernel
theorem d7_70 : decode method_2_code 70 = .ok (.castore, 1) := by decide +kernel
theorem d7_71 : decode method_2_code 71 = .ok (.dup, 1) := by decide +kernel
theorem d7_72 : decode method_2_code 72 = .ok (.iconst 2, 1) := by decide +kernel
theorem d7_73 : decode method_2_code 73 = .ok (.iload_n 3, 1) := by decide +kernel
theorem d7_74 : decode method_2_code 74 = .ok (.castore, 1) := by decide +kernel
theorem d7_75 : decode method_2_code 75 = .ok (.invokespecial 15, 3) := by decide +kernel
theorem d7_78 : decode method_2_code 78 = .ok (.areturn, 1) := by decide +kernel
theorem d7_79 : decode method_2_code 79 = .ok (.iload 4, 2) := by decide +kernel
theorem d7_81 : decode method_2_code 81 = .ok (.iconst 4, 1) := by decide +kernel
theorem d7_82 : decode method_2_code 82 = .ok (.if_icmp .ne 5, 3) := by decide +kernel
theorem d7_85 : decode method_2_code 85 = .ok (.aconst_null, 1) := by decide +kernel
theorem d7_86 : decode method_2_code 86 = .ok (.areturn, 1) := by decide +kernel
theorem d7_87 : decode method_2_code 87 = .ok (.new 10, 3) := by decide +kernel
theorem d7_90 : decode method_2_code 90 = .ok (.dup, 1) := by decide +kernel
theorem d7_91 : decode method_2_code 91 = .ok (.iconst 4, 1) := by decide +kernel
theorem d7_92 : decode method_2_code 92 = .ok (.newarray .char, 2) := by decide +kernel
theorem d7_94 : decode method_2_code 94 = .ok (.dup, 1) := by decide +kernel
theorem d7_95 : decode method_2_code 95 = .ok (.iconst 0, 1) := by decide +kernel
theorem d7_96 : decode method_2_code 96 = .ok (.iload_n 1, 1) := by decide +kernel
theorem d7_97 : decode method_2_code 97 = .ok (.castore, 1) := by decide +kernel
theorem d7_98 : decode method_2_code 98 = .ok (.dup, 1) := by decide +kernel
theorem d7_99 : decode method_2_code 99 = .ok (.iconst 1, 1) := by decide +kernel
theorem d7_100 : decode method_2_code 100 = .ok (.iload_n 2, 1) := by decide +kernel
theorem d7_101 : decode method_2_code 101 = .ok (.castore, 1) := by decide +kernel
theorem d7_102 : decode method_2_code 102 = .ok (.dup, 1) := by decide +kernel
theorem d7_103 : decode method_2_code 103 = .ok (.iconst 2, 1) := by decide +kernel
theorem d7_104 : decode method_2_code 104 = .ok (.iload_n 3, 1) := by decide +kernel
theorem d7_105 : decode method_2_code 105 = .ok (.castore, 1) := by decide +kernel
theorem d7_106 : decode method_2_code 106 = .ok (.dup, 1) := by decide +kernel
theorem d7_107 : decode method_2_code 107 = .ok (.iconst 3, 1) := by decide +kernel
theorem d7_108 : decode method_2_code 108 = .ok (.iload_n 1, 1) := by decide +kernel
theorem d7_109 : decode method_2_code 109 = .ok (.castore, 1) := by decide +kernel
theorem d7_110 : decode method_2_code 110 = .ok (.invokespecial 15, 3) := by decide +kernel
theorem d7_113 : decode method_2_code 113 = .ok (.areturn, 1) := by decide +kernel
def Q_draw (Z : State) (k : Int32) (c0 : Int32) (c1 : Int32) (c2 : Int32) (h0 : Heap) (v : Option Value) (h : Heap) (vm : Vm) : Prop := ∃ (r : Value), v = some r ∧ r.isRef = true
set_option maxRecDepth 65536 in
set_option maxHeartbeats 40000000 in
theorem rm_draw (l : Launch) (Z : State) (a0 : Array Value) (hw : ∀ d ∈ tables_1, d.before a0 Z = true) (wl : List Jvm.Cond) (zc : Int32) (ust : Addr) (sen : Value) (S_String_COMPACT_STRINGS : Sta Z Z.heap "java/lang/String" "COMPACT_STRINGS" "Z" (.int zc)) (hzc : ¬ (zc = (0 : Int32))) (hEW : EW Z a0 []) (hst : l.stackTraces = true) (S_Throwable_UNASSIGNED_STACK : Sta Z Z.heap "java/lang/Throwable" "UNASSIGNED_STACK" "[Ljava/lang/StackTraceElement;" (.ref ust)) (S_Throwable_SUPPRESSED_SENTINEL : Sta Z Z.heap "java/lang/Throwable" "SUPPRESSED_SENTINEL" "Ljava/util/List;" sen) (hsen : sen.isRef = true) (k : Int32) (c0 : Int32) (c1 : Int32) (c2 : Int32) (h0 : Heap) (n0 : Nat) (O0 : Old Z n0 h0) (rc0 : ¬ c0 < 0 ∧ ¬ (255 : Int32) < c0) (rc1 : ¬ c1 < 0 ∧ ¬ (255 : Int32) < c1) (rc2 : ¬ c2 < 0 ∧ ¬ (255 : Int32) < c2) :
    Met l (⟨"com/example/earnest_trail/earnesttrail/ApiExceptionBadRequestPinLaw", "drawMessage", "(ICCC)Ljava/lang/String;"⟩ : MethodName) method_2_code 5 (some (.object "java/lang/String")) wl ({ frames := 4, cells := 3, slots := 12, locals := 66 } : Room) Z #[(.int k), (.int c0), (.int c1), (.int c2)] h0 n0 [] [] true [] (Q_draw Z k c0 c1 c2 h0) := by
  refine met_intro (own := "com/example/earnest_trail/earnesttrail/ApiExceptionBadRequestPinLaw") (nm := "drawMessage") pn_com_example_earnest_trail_earnesttrail_ApiExceptionBadRequestPinLaw rfl rfl O0 hEW ?_
  intro p e s m below meth cC T0 X0 hsf0
  refine Go.cast (ef_draw m (k) (c0) (c1) (c2) ) ?_
  have n0le := X0.n0le
  refine o_iloadN (pc' := 1) (v := k) X0 d7_0 rfl rfl ?_
  refine o_bipush (pc' := 3) (v := (7 : Int32)) X0 d7_1 rfl (by decide) ?_
  refine o_iand (pc' := 4) (v := (k &&& (7 : Int32))) X0 d7_3 rfl rfl ?_
  refine o_istore (pc' := 6) (l' := #[.val (.int k), .val (.int c0), .val (.int c1), .val (.int c2), .val (.int (k &&& (7 : Int32)))]) X0 d7_4 rfl rfl ?_
  refine o_iload (pc' := 8) (v := (k &&& (7 : Int32))) X0 d7_6 rfl rfl ?_
  by_cases hc1 : (k &&& (7 : Int32)) = (0 : Int32)
  · refine o_ifNo (pc' := 11) X0 d7_8 rfl ((if0 _ _).trans (teq hc1).2) ?_
    refine o_ldcO (pc' := 13) (n := 0) X0 (w_4 hw) (hws_str hw) d7_11 rfl (by decide) (by decide) (by decide) (by decide) ?_
    intro a2 T2 h2 vm2 X2 E2 C2
    have sz2 := E2.1
    exact o_aret X2 d7_13 rfl rfl rfl (by decide) (by decide) (fun vm_ CC => ⟨(.ref a2), rfl, rfl⟩)
  · refine o_ifYes (pc' := 14) X0 d7_8 (by decide) (by decide) ((if0 _ _).trans (feq hc1).2) ?_
    refine o_iload (pc' := 16) (v := (k &&& (7 : Int32))) X0 d7_14 rfl rfl ?_
    refine o_iconst (pc' := 17) (v := (1 : Int32)) X0 d7_16 rfl (by decide) ?_
    by_cases hc3 : (k &&& (7 : Int32)) = (1 : Int32)
    · refine o_icmpNo (pc' := 20) X0 d7_17 rfl (teq hc3).2 ?_
      refine o_iloadN (pc' := 21) (v := c0) X0 d7_20 rfl rfl ?_
      refine o_static (pc' := 24) (argsL := [(.int c0)]) (rest := []) (ws' := []) X0 (w_113 hw) (w_114 hw) (w_5 hw) (w_115 hw) (by decide) (lenOf pd_5 rfl) (back_met (W := 0) (rm_strValueOfC l Z a0 hw [] zc ust sen S_String_COMPACT_STRINGS hzc hEW hst S_Throwable_UNASSIGNED_STACK S_Throwable_SUPPRESSED_SENTINEL hsen (c0) h0 n0 X0.old rc0) X0 (w_115 hw) (w_5 hw) (by decide) (by decide) (fun _ q => nomatch q)) d7_21 rfl rfl rfl (Nat.le_of_eq rfl) (by decide) (by decide) qq_fr all0 ?_
      rintro v4 T4 h4 L4 vm4 X4 ⟨-, -, Q4⟩ K4 C4
      have z4 := K4.1
      obtain ⟨r_5, t_6, kb_7, rfl, q8, q9, q10, q11, q12, q13, q14, q15⟩ := Q4
      show Go p.tables e below _ (T4.setTop (mkF m 24 #[.val (.int k), .val (.int c0), .val (.int c1), .val (.int c2), .val (.int (k &&& (7 : Int32)))] [(.ref r_5)]))
      exact o_aret X4 d7_24 rfl rfl rfl (by decide) (by decide) (fun vm_ CC => ⟨(.ref r_5), rfl, rfl⟩)
    · refine o_icmpYes (pc' := 25) X0 d7_17 (by decide) (by decide) (feq hc3).2 ?_
      refine o_iload (pc' := 27) (v := (k &&& (7 : Int32))) X0 d7_25 rfl rfl ?_
      refine o_iconst (pc' := 28) (v := (2 : Int32)) X0 d7_27 rfl (by decide) ?_
      by_cases hc16 : (k &&& (7 : Int32)) = (2 : Int32)
      · refine o_icmpNo (pc' := 31) X0 d7_28 rfl (teq hc16).2 ?_
        refine o_new (pc' := 34) X0 (w_90 hw) (w_6 hw) (w_5 hw) d7_31 rfl (by decide) (by decide) ?_
        intro T17 h17 b17 X17 g17 l17 E17 A17 D17 U17 C17 S17
        have f18 : Fld Z h17 b17 "java/lang/String" "value" "[B" .null := D17 (Or.inr (w_8 hw)) (ty := (.array .byte)) (by decide)
        have f19 : Fld Z h17 b17 "java/lang/String" "coder" "B" (.int (0 : Int32)) := D17 (Or.inr (w_9 hw)) (ty := .byte) (by decide)
        refine o_dup (pc' := 35) X17 d7_34 rfl rfl ?_
        refine o_iconst (pc' := 36) (v := (2 : Int32)) X17 d7_35 rfl (by decide) ?_
        refine o_newP (pc' := 38) (aty := .char) (cap := 2) X17 (w_91 hw) d7_36 rfl (by decide) (by decide) (by decide) (by decide) (by decide) (ad := "[C") (by decide +kernel) ?_
        intro T20 h20 b20 k20 X20 g20 l20 E20 V20 A20 C20 S20
        have V21 : Arv Z h20 b20 k20 .char (2 : Int32) [(.int (0 : Int32)), (.int (0 : Int32))] (.int (0 : Int32)) := V20.pad (pad_rep [] (.int (0 : Int32)) 2)
        refine o_dup (pc' := 39) X20 d7_38 rfl rfl ?_
        refine o_iconst (pc' := 40) (v := (0 : Int32)) X20 d7_39 rfl (by decide) ?_
        refine o_iloadN (pc' := 41) (v := c0) X20 d7_40 rfl rfl ?_
        refine o_stC (pc' := 42) (i := 0) (y := c0) X20 V21 ⟨by decide, by decide⟩ (by decide) (Nat.le_of_ble_eq_true rfl) (own_narC rc0) d7_41 rfl (by omega) (Or.inr (by omega)) (own_safe0 _) ?_
        rintro T22 h22 X22 ⟨sl22, ww22, W22⟩ C22 V22
        have z22 := W22.size
        have V23 : Arv Z h22 b20 k20 .char (2 : Int32) [(.int c0), (.int (0 : Int32))] (.int (0 : Int32)) := V22
        refine o_dup (pc' := 43) X22 d7_42 rfl rfl ?_
        refine o_iconst (pc' := 44) (v := (1 : Int32)) X22 d7_43 rfl (by decide) ?_
        refine o_iloadN (pc' := 45) (v := c1) X22 d7_44 rfl rfl ?_
        refine o_stC (pc' := 46) (i := 1) (y := c1) X22 V23 ⟨by decide, by decide⟩ (by decide) (Nat.le_of_ble_eq_true rfl) (own_narC rc1) d7_45 rfl (by omega) (Or.inr (by omega)) (own_safe0 _) ?_
        rintro T24 h24 X24 ⟨sl24, ww24, W24⟩ C24 V24
        have z24 := W24.size
        have V25 : Arv Z h24 b20 k20 .char (2 : Int32) [(.int c0), (.int c1)] (.int (0 : Int32)) := V24
        have hp26 : ∀ c ∈ ([c0, c1] : List Int32), ¬ c < 0 ∧ ¬ (255 : Int32) < c := (own_allC rc0 (own_allC rc1 (fun _ q => nomatch q)))
        have f27 := (((A17.ext E20).wr W22).wr W24)
        have f28 := (((f18.ext E20).other W22 (Or.inl (own_ne (a := b17) (b := b20) (by omega)))).other W24 (Or.inl (own_ne (a := b17) (b := b20) (by omega))))
        have f29 := (((f19.ext E20).other W22 (Or.inl (own_ne (a := b17) (b := b20) (by omega)))).other W24 (Or.inl (own_ne (a := b17) (b := b20) (by omega))))
        refine o_special (pc' := 49) (argsL := [(.ref b20)]) (rest := [(.ref b17)]) (kc := 1) (ks := 2) (Q := fun v h (_ : Vm) L => StrChars.Road.QV Z b17 (2 : Int32) (([c0, c1] : List Int32).map (fun c => c.toInt8.toInt32)) h24 n0 v h L) (b := b17) (ws' := [b17]) X24 rfl (w_92 hw) (w_93 hw) (w_94 hw) (by decide) (lenOf pd_6 rfl) (back_road (ws' := [b17]) X24 (StrChars.Road.backV (s := s.setVm s.vm) (W := 1) X24.zv (hws_new hw) (kI := 4) (w_6 hw) (cs := ([c0, c1] : List Int32)) (bs := ([c0, c1] : List Int32).map (fun c => c.toInt8.toInt32)) (n := 2) (n0 := n0) (by omega) (by omega) f27 f28 f29 V25 (S_String_COMPACT_STRINGS.ext X24.old.2) hzc rfl rfl (by decide) (by decide) hp26 rfl (by decide) (by decide)) (fun _ _ _ q => q.2.2.1) (own_sfS (own_safe0 _) (fun _ q => nomatch q))) d7_46 rfl rfl rfl (Nat.le_of_eq rfl) (by decide) (by decide) (fun _ _ _ _ q => ⟨q.2.1, q.2.2.1⟩) (allS ⟨by omega, (Or.inr (by omega))⟩ all0) ?_
        intro v30 T30 h30 L30 vm30 X30 Q30 K30 C30
        have z30 := K30.1
        obtain ⟨rfl, -, -, Es31, Cs31, ts31, kb31, nt31, gt31, tx31, Vs31, As31⟩ := Q30
        have lts31 : h30.size > ts31 := As31.lt
        show Go p.tables e below _ (T30.setTop (mkF m 49 #[.val (.int k), .val (.int c0), .val (.int c1), .val (.int c2), .val (.int (k &&& (7 : Int32)))] [(.ref b17)]))
        exact o_aret X30 d7_49 rfl rfl rfl (by decide) (by decide) (fun vm_ CC => ⟨(.ref b17), rfl, rfl⟩)
      · refine o_icmpYes (pc' := 50) X0 d7_28 (by decide) (by decide) (feq hc16).2 ?_
        refine o_iload (pc' := 52) (v := (k &&& (7 : Int32))) X0 d7_50 rfl rfl ?_
        refine o_iconst (pc' := 53) (v := (3 : Int32)) X0 d7_52 rfl (by decide) ?_
        by_cases hc32 : (k &&& (7 : Int32)) = (3 : Int32)
        · refine o_icmpNo (pc' := 56) X0 d7_53 rfl (teq hc32).2 ?_
          refine o_new (pc' := 59) X0 (w_90 hw) (w_6 hw) (w_5 hw) d7_56 rfl (by decide) (by decide) ?_
          intro T33 h33 b33 X33 g33 l33 E33 A33 D33 U33 C33 S33
          have f34 : Fld Z h33 b33 "java/lang/String" "value" "[B" .null := D33 (Or.inr (w_8 hw)) (ty := (.array .byte)) (by decide)
          have f35 : Fld Z h33 b33 "java/lang/String" "coder" "B" (.int (0 : Int32)) := D33 (Or.inr (w_9 hw)) (ty := .byte) (by decide)
          refine o_dup (pc' := 60) X33 d7_59 rfl rfl ?_
          refine o_iconst (pc' := 61) (v := (3 : Int32)) X33 d7_60 rfl (by decide) ?_
          refine o_newP (pc' := 63) (aty := .char) (cap := 3) X33 (w_91 hw) d7_61 rfl (by decide) (by decide) (by decide) (by decide) (by decide) (ad := "[C") (by decide +kernel) ?_
          intro T36 h36 b36 k36 X36 g36 l36 E36 V36 A36 C36 S36
          have V37 : Arv Z h36 b36 k36 .char (3 : Int32) [(.int (0 : Int32)), (.int (0 : Int32)), (.int (0 : Int32))] (.int (0 : Int32)) := V36.pad (pad_rep [] (.int (0 : Int32)) 3)
          refine o_dup (pc' := 64) X36 d7_63 rfl rfl ?_
          refine o_iconst (pc' := 65) (v := (0 : Int32)) X36 d7_64 rfl (by decide) ?_
          refine o_iloadN (pc' := 66) (v := c0) X36 d7_65 rfl rfl ?_
          refine o_stC (pc' := 67) (i := 0) (y := c0) X36 V37 ⟨by decide, by decide⟩ (by decide) (Nat.le_of_ble_eq_true rfl) (own_narC rc0) d7_66 rfl (by omega) (Or.inr (by omega)) (own_safe0 _) ?_
          rintro T38 h38 X38 ⟨sl38, ww38, W38⟩ C38 V38
          have z38 := W38.size
          have V39 : Arv Z h38 b36 k36 .char (3 : Int32) [(.int c0), (.int (0 : Int32)), (.int (0 : Int32))] (.int (0 : Int32)) := V38
          refine o_dup (pc' := 68) X38 d7_67 rfl rfl ?_
          refine o_iconst (pc' := 69) (v := (1 : Int32)) X38 d7_68 rfl (by decide) ?_
          refine o_iloadN (pc' := 70) (v := c1) X38 d7_69 rfl rfl ?_
          refine o_stC (pc' := 71) (i := 1) (y := c1) X38 V39 ⟨by decide, by decide⟩ (by decide) (Nat.le_of_ble_eq_true rfl) (own_narC rc1) d7_70 rfl (by omega) (Or.inr (by omega)) (own_safe0 _) ?_
          rintro T40 h40 X40 ⟨sl40, ww40, W40⟩ C40 V40
          have z40 := W40.size
          have V41 : Arv Z h40 b36 k36 .char (3 : Int32) [(.int c0), (.int c1), (.int (0 : Int32))] (.int (0 : Int32)) := V40
          refine o_dup (pc' := 72) X40 d7_71 rfl rfl ?_
          refine o_iconst (pc' := 73) (v := (2 : Int32)) X40 d7_72 rfl (by decide) ?_
          refine o_iloadN (pc' := 74) (v := c2) X40 d7_73 rfl rfl ?_
          refine o_stC (pc' := 75) (i := 2) (y := c2) X40 V41 ⟨by decide, by decide⟩ (by decide) (Nat.le_of_ble_eq_true rfl) (own_narC rc2) d7_74 rfl (by omega) (Or.inr (by omega)) (own_safe0 _) ?_
          rintro T42 h42 X42 ⟨sl42, ww42, W42⟩ C42 V42
          have z42 := W42.size
          have V43 : Arv Z h42 b36 k36 .char (3 : Int32) [(.int c0), (.int c1), (.int c2)] (.int (0 : Int32)) := V42
          have hp44 : ∀ c ∈ ([c0, c1, c2] : List Int32), ¬ c < 0 ∧ ¬ (255 : Int32) < c := (own_allC rc0 (own_allC rc1 (own_allC rc2 (fun _ q => nomatch q))))
          have f45 := ((((A33.ext E36).wr W38).wr W40).wr W42)
          have f46 := ((((f34.ext E36).other W38 (Or.inl (own_ne (a := b33) (b := b36) (by omega)))).other W40 (Or.inl (own_ne (a := b33) (b := b36) (by omega)))).other W42 (Or.inl (own_ne (a := b33) (b := b36) (by omega))))
          have f47 := ((((f35.ext E36).other W38 (Or.inl (own_ne (a := b33) (b := b36) (by omega)))).other W40 (Or.inl (own_ne (a := b33) (b := b36) (by omega)))).other W42 (Or.inl (own_ne (a := b33) (b := b36) (by omega))))
          refine o_special (pc' := 78) (argsL := [(.ref b36)]) (rest := [(.ref b33)]) (kc := 1) (ks := 3) (Q := fun v h (_ : Vm) L => StrChars.Road.QV Z b33 (3 : Int32) (([c0, c1, c2] : List Int32).map (fun c => c.toInt8.toInt32)) h42 n0 v h L) (b := b33) (ws' := [b33]) X42 rfl (w_92 hw) (w_93 hw) (w_94 hw) (by decide) (lenOf pd_6 rfl) (back_road (ws' := [b33]) X42 (StrChars.Road.backV (s := s.setVm s.vm) (W := 1) X42.zv (hws_new hw) (kI := 4) (w_6 hw) (cs := ([c0, c1, c2] : List Int32)) (bs := ([c0, c1, c2] : List Int32).map (fun c => c.toInt8.toInt32)) (n := 3) (n0 := n0) (by omega) (by omega) f45 f46 f47 V43 (S_String_COMPACT_STRINGS.ext X42.old.2) hzc rfl rfl (by decide) (by decide) hp44 rfl (by decide) (by decide)) (fun _ _ _ q => q.2.2.1) (own_sfS (own_safe0 _) (fun _ q => nomatch q))) d7_75 rfl rfl rfl (Nat.le_of_eq rfl) (by decide) (by decide) (fun _ _ _ _ q => ⟨q.2.1, q.2.2.1⟩) (allS ⟨by omega, (Or.inr (by omega))⟩ all0) ?_
          intro v48 T48 h48 L48 vm48 X48 Q48 K48 C48
          have z48 := K48.1
          obtain ⟨rfl, -, -, Es49, Cs49, ts49, kb49, nt49, gt49, tx49, Vs49, As49⟩ := Q48
          have lts49 : h48.size > ts49 := As49.lt
          show Go p.tables e below _ (T48.setTop (mkF m 78 #[.val (.int k), .val (.int c0), .val (.int c1), .val (.int c2), .val (.int (k &&& (7 : Int32)))] [(.ref b33)]))
          exact o_aret X48 d7_78 rfl rfl rfl (by decide) (by decide) (fun vm_ CC => ⟨(.ref b33), rfl, rfl⟩)
        · refine o_icmpYes (pc' := 79) X0 d7_53 (by decide) (by decide) (feq hc32).2 ?_
          refine o_iload (pc' := 81) (v := (k &&& (7 : Int32))) X0 d7_79 rfl rfl ?_
          refine o_iconst (pc' := 82) (v := (4 : Int32)) X0 d7_81 rfl (by decide) ?_
          by_cases hc50 : (k &&& (7 : Int32)) = (4 : Int32)
          · refine o_icmpNo (pc' := 85) X0 d7_82 rfl (teq hc50).2 ?_
            refine o_aconstNull (pc' := 86) X0 d7_85 rfl ?_
            exact o_aret X0 d7_86 rfl rfl rfl (by decide) (by decide) (fun vm_ CC => ⟨.null, rfl, rfl⟩)
          · refine o_icmpYes (pc' := 87) X0 d7_82 (by decide) (by decide) (feq hc50).2 ?_
            refine o_new (pc' := 90) X0 (w_90 hw) (w_6 hw) (w_5 hw) d7_87 rfl (by decide) (by decide) ?_
            intro T51 h51 b51 X51 g51 l51 E51 A51 D51 U51 C51 S51
            have f52 : Fld Z h51 b51 "java/lang/String" "value" "[B" .null := D51 (Or.inr (w_8 hw)) (ty := (.array .byte)) (by decide)
            have f53 : Fld Z h51 b51 "java/lang/String" "coder" "B" (.int (0 : Int32)) := D51 (Or.inr (w_9 hw)) (ty := .byte) (by decide)
            refine o_dup (pc' := 91) X51 d7_90 rfl rfl ?_
            refine o_iconst (pc' := 92) (v := (4 : Int32)) X51 d7_91 rfl (by decide) ?_
            refine o_newP (pc' := 94) (aty := .char) (cap := 4) X51 (w_91 hw) d7_92 rfl (by decide) (by decide) (by decide) (by decide) (by decide) (ad := "[C") (by decide +kernel) ?_
            intro T54 h54 b54 k54 X54 g54 l54 E54 V54 A54 C54 S54
            have V55 : Arv Z h54 b54 k54 .char (4 : Int32) [(.int (0 : Int32)), (.int (0 : Int32)), (.int (0 : Int32)), (.int (0 : Int32))] (.int (0 : Int32)) := V54.pad (pad_rep [] (.int (0 : Int32)) 4)
            refine o_dup (pc' := 95) X54 d7_94 rfl rfl ?_
            refine o_iconst (pc' := 96) (v := (0 : Int32)) X54 d7_95 rfl (by decide) ?_
            refine o_iloadN (pc' := 97) (v := c0) X54 d7_96 rfl rfl ?_
            refine o_stC (pc' := 98) (i := 0) (y := c0) X54 V55 ⟨by decide, by decide⟩ (by decide) (Nat.le_of_ble_eq_true rfl) (own_narC rc0) d7_97 rfl (by omega) (Or.inr (by omega)) (own_safe0 _) ?_
            rintro T56 h56 X56 ⟨sl56, ww56, W56⟩ C56 V56
            have z56 := W56.size
            have V57 : Arv Z h56 b54 k54 .char (4 : Int32) [(.int c0), (.int (0 : Int32)), (.int (0 : Int32)), (.int (0 : Int32))] (.int (0 : Int32)) := V56
            refine o_dup (pc' := 99) X56 d7_98 rfl rfl ?_
            refine o_iconst (pc' := 100) (v := (1 : Int32)) X56 d7_99 rfl (by decide) ?_
            refine o_iloadN (pc' := 101) (v := c1) X56 d7_100 rfl rfl ?_
            refine o_stC (pc' := 102) (i := 1) (y := c1) X56 V57 ⟨by decide, by decide⟩ (by decide) (Nat.le_of_ble_eq_true rfl) (own_narC rc1) d7_101 rfl (by omega) (Or.inr (by omega)) (own_safe0 _) ?_
            rintro T58 h58 X58 ⟨sl58, ww58, W58⟩ C58 V58
            have z58 := W58.size
            have V59 : Arv Z h58 b54 k54 .char (4 : Int32) [(.int c0), (.int c1), (.int (0 : Int32)), (.int (0 : Int32))] (.int (0 : Int32)) := V58
            refine o_dup (pc' := 103) X58 d7_102 rfl rfl ?_
            refine o_iconst (pc' := 104) (v := (2 : Int32)) X58 d7_103 rfl (by decide) ?_
            refine o_iloadN (pc' := 105) (v := c2) X58 d7_104 rfl rfl ?_
            refine o_stC (pc' := 106) (i := 2) (y := c2) X58 V59 ⟨by decide, by decide⟩ (by decide) (Nat.le_of_ble_eq_true rfl) (own_narC rc2) d7_105 rfl (by omega) (Or.inr (by omega)) (own_safe0 _) ?_
            rintro T60 h60 X60 ⟨sl60, ww60, W60⟩ C60 V60
            have z60 := W60.size
            have V61 : Arv Z h60 b54 k54 .char (4 : Int32) [(.int c0), (.int c1), (.int c2), (.int (0 : Int32))] (.int (0 : Int32)) := V60
            refine o_dup (pc' := 107) X60 d7_106 rfl rfl ?_
            refine o_iconst (pc' := 108) (v := (3 : Int32)) X60 d7_107 rfl (by decide) ?_
            refine o_iloadN (pc' := 109) (v := c0) X60 d7_108 rfl rfl ?_
            refine o_stC (pc' := 110) (i := 3) (y := c0) X60 V61 ⟨by decide, by decide⟩ (by decide) (Nat.le_of_ble_eq_true rfl) (own_narC rc0) d7_109 rfl (by omega) (Or.inr (by omega)) (own_safe0 _) ?_
            rintro T62 h62 X62 ⟨sl62, ww62, W62⟩ C62 V62
            have z62 := W62.size
            have V63 : Arv Z h62 b54 k54 .char (4 : Int32) [(.int c0), (.int c1), (.int c2), (.int c0)] (.int (0 : Int32)) := V62
            have hp64 : ∀ c ∈ ([c0, c1, c2, c0] : List Int32), ¬ c < 0 ∧ ¬ (255 : Int32) < c := (own_allC rc0 (own_allC rc1 (own_allC rc2 (own_allC rc0 (fun _ q => nomatch q)))))
            have f65 := (((((A51.ext E54).wr W56).wr W58).wr W60).wr W62)
            have f66 := (((((f52.ext E54).other W56 (Or.inl (own_ne (a := b51) (b := b54) (by omega)))).other W58 (Or.inl (own_ne (a := b51) (b := b54) (by omega)))).other W60 (Or.inl (own_ne (a := b51) (b := b54) (by omega)))).other W62 (Or.inl (own_ne (a := b51) (b := b54) (by omega))))
            have f67 := (((((f53.ext E54).other W56 (Or.inl (own_ne (a := b51) (b := b54) (by omega)))).other W58 (Or.inl (own_ne (a := b51) (b := b54) (by omega)))).other W60 (Or.inl (own_ne (a := b51) (b := b54) (by omega)))).other W62 (Or.inl (own_ne (a := b51) (b := b54) (by omega))))
            refine o_special (pc' := 113) (argsL := [(.ref b54)]) (rest := [(.ref b51)]) (kc := 1) (ks := 4) (Q := fun v h (_ : Vm) L => StrChars.Road.QV Z b51 (4 : Int32) (([c0, c1, c2, c0] : List Int32).map (fun c => c.toInt8.toInt32)) h62 n0 v h L) (b := b51) (ws' := [b51]) X62 rfl (w_92 hw) (w_93 hw) (w_94 hw) (by decide) (lenOf pd_6 rfl) (back_road (ws' := [b51]) X62 (StrChars.Road.backV (s := s.setVm s.vm) (W := 1) X62.zv (hws_new hw) (kI := 4) (w_6 hw) (cs := ([c0, c1, c2, c0] : List Int32)) (bs := ([c0, c1, c2, c0] : List Int32).map (fun c => c.toInt8.toInt32)) (n := 4) (n0 := n0) (by omega) (by omega) f65 f66 f67 V63 (S_String_COMPACT_STRINGS.ext X62.old.2) hzc rfl rfl (by decide) (by decide) hp64 rfl (by decide) (by decide)) (fun _ _ _ q => q.2.2.1) (own_sfS (own_safe0 _) (fun _ q => nomatch q))) d7_110 rfl rfl rfl (Nat.le_of_eq rfl) (by decide) (by decide) (fun _ _ _ _ q => ⟨q.2.1, q.2.2.1⟩) (allS ⟨by omega, (Or.inr (by omega))⟩ all0) ?_
            intro v68 T68 h68 L68 vm68 X68 Q68 K68 C68
            have z68 := K68.1
            obtain ⟨rfl, -, -, Es69, Cs69, ts69, kb69, nt69, gt69, tx69, Vs69, As69⟩ := Q68
            have lts69 : h68.size > ts69 := As69.lt
            show Go p.tables e below _ (T68.setTop (mkF m 113 #[.val (.int k), .val (.int c0), .val (.int c1), .val (.int c2), .val (.int (k &&& (7 : Int32)))] [(.ref b51)]))
            exact o_aret X68 d7_113 rfl rfl rfl (by decide) (by decide) (fun vm_ CC => ⟨(.ref b51), rfl, rfl⟩)
theorem ef_aeInit (m : MethodId) (x0 : Addr) (x1 : Int32) (x2 : Value) (r2 : x2.isRef = true) : entryFrame m #[(.ref x0), (.int x1), x2] 3 = mkF m 0 #[.val (.ref x0), .val (.int x1), .val x2] [] := by
  rcases ref_cases r2 with rfl | ⟨q2, rfl⟩ <;> first | rfl | (simp [entryFrame, mkF, argsToLocals, Value.category, maxLocals]; done)
theorem pn_com_example_earnest_trail_earnesttrail_ApiException : plainName "com/example/earnest_trail/earnesttrail/ApiException" = true := by first | (simp [plainName, overriddenIn]; done) | decide +kernel
theorem d8_0 : decode prog_2_method_1_code 0 = .ok (.aload_n 0, 1) := by decide +kernel
theorem d8_1 : decode prog_2_method_1_code 1 = .ok (.aload_n 2, 1) := by decide +kernel
theorem d8_2 : decode prog_2_method_1_code 2 = .ok (.invokespecial 1, 3) := by decide +kernel
theorem d8_5 : decode prog_2_method_1_code 5 = .ok (.aload_n 0, 1) := by decide +kernel
theorem d8_6 : decode prog_2_method_1_code 6 = .ok (.iload_n 1, 1) := by decide +kernel
theorem d8_7 : decode prog_2_method_1_code 7 = .ok (.putfield 7, 3) := by decide +kernel
theorem d8_10 : decode prog_2_method_1_code 10 = .ok (.return_, 1) := by decide +kernel
def Q_aeInit (Z : State) (a : Addr) (x : Int32) (msg : Value) (h0 : Heap) (v : Option Value) (h : Heap) (vm : Vm) : Prop := v = none ∧ Exa Z h a "com/example/earnest_trail/earnesttrail/ApiException" ∧ Fld Z h a "com/example/earnest_trail/earnesttrail/ApiException" "status" "I" (.int x) ∧ Fld Z h a "java/lang/Throwable" "detailMessage" "Ljava/lang/String;" msg
set_option maxRecDepth 65536 in
set_option maxHeartbeats 40000000 in
theorem rm_aeInit (l : Launch) (Z : State) (a0 : Array Value) (hw : ∀ d ∈ tables_1, d.before a0 Z = true) (wl : List Jvm.Cond) (zc : Int32) (ust : Addr) (sen : Value) (S_String_COMPACT_STRINGS : Sta Z Z.heap "java/lang/String" "COMPACT_STRINGS" "Z" (.int zc)) (hzc : ¬ (zc = (0 : Int32))) (hEW : EW Z a0 []) (hst : l.stackTraces = true) (S_Throwable_UNASSIGNED_STACK : Sta Z Z.heap "java/lang/Throwable" "UNASSIGNED_STACK" "[Ljava/lang/StackTraceElement;" (.ref ust)) (S_Throwable_SUPPRESSED_SENTINEL : Sta Z Z.heap "java/lang/Throwable" "SUPPRESSED_SENTINEL" "Ljava/util/List;" sen) (hsen : sen.isRef = true) (a : Addr) (x : Int32) (msg : Value) (h0 : Heap) (n0 : Nat) (O0 : Old Z n0 h0) (F0_a : Exa Z h0 a "com/example/earnest_trail/earnesttrail/ApiException") (F1_a : Unt h0 a) (F2_a_backtrace : Fld Z h0 a "java/lang/Throwable" "backtrace" "Ljava/lang/Object;" .null) (n0_a : n0 ≤ a) (r_msg : msg.isRef = true) :
    Met l (⟨"com/example/earnest_trail/earnesttrail/ApiException", "<init>", "(ILjava/lang/String;)V"⟩ : MethodName) prog_2_method_1_code 3 none wl ({ frames := 6, cells := 1, slots := 2752, locals := 81 } : Room) Z #[(.ref a), (.int x), msg] h0 n0 [a] [] true [] (Q_aeInit Z a x msg h0) := by
  refine met_intro (own := "com/example/earnest_trail/earnesttrail/ApiException") (nm := "<init>") pn_com_example_earnest_trail_earnesttrail_ApiException rfl rfl O0 hEW ?_
  intro p e s m below meth cC T0 X0 hsf0
  refine Go.cast (ef_aeInit m (a) (x) (msg) r_msg) ?_
  have n0le := X0.n0le
  have lt_a : h0.size > a := F0_a.lt
  refine o_aloadN (pc' := 1) (v := (.ref a)) X0 d8_0 rfl rfl rfl ?_
  refine o_aloadN (pc' := 2) (v := msg) X0 d8_1 rfl rfl r_msg ?_
  refine o_special (pc' := 5) (argsL := [msg]) (rest := []) (b := a) (ws' := [a]) X0 rfl (w_21 hw) (w_22 hw) (w_25 hw) (by decide) (lenOf pd_1 rfl) (back_met (W := 0) (rm_ctor2 l Z a0 hw [] zc ust sen S_String_COMPACT_STRINGS hzc hEW hst S_Throwable_UNASSIGNED_STACK S_Throwable_SUPPRESSED_SENTINEL hsen (a) (msg) h0 n0 X0.old F0_a F1_a F2_a_backtrace (by omega) r_msg) X0 (w_25 hw) (w_24 hw) (by decide) (by decide) (fun _ q => nomatch q)) d8_2 rfl rfl rfl (Nat.le_of_eq rfl) (by decide) (by decide) qq_fr (allS ⟨by omega, (Or.inl (by simp))⟩ all0) ?_
  rintro v1 T1 h1 L1 vm1 X1 ⟨-, -, Q1⟩ K1 C1
  have z1 := K1.1
  obtain ⟨rfl, q2, q3, q4⟩ := Q1
  show Go p.tables e below _ (T1.setTop (mkF m 5 #[.val (.ref a), .val (.int x), .val msg] []))
  refine o_aloadN (pc' := 6) (v := (.ref a)) X1 d8_5 rfl rfl rfl ?_
  refine o_iloadN (pc' := 7) (v := x) X1 d8_6 rfl rfl ?_
  obtain ⟨u5, fu5⟩ := fld_laid q2 q3.known (w_17 hw) (Or.inr (w_78 hw))
  refine o_putF (pc' := 10) (v' := (.int x)) (ty := .int) X1 (w_77 hw) Via.refl fu5 q2 (Or.inr ⟨(w_78 hw), rfl, rfl⟩) (w_17 hw) (by decide) rfl rfl d8_7 rfl (by omega) (Or.inl (by simp)) (own_safe0 _) ?_
  intro T6 h6 X6 W6 C6
  have z6 := W6.size
  have f7 : Fld Z h6 a "com/example/earnest_trail/earnesttrail/ApiException" "status" "I" (.int x) := fu5.same W6
  have f8 := (q2.wr W6)
  have f9 := (q4.other W6 (Or.inr (slot_ne (Or.inl (w_72 hw)) (Or.inr (w_78 hw)) (by decide) (t := (.object "java/lang/String")) (t' := .int) (by decide) (by decide))))
  exact o_ret X6 d8_10 rfl (by decide) (by decide) (fun vm_ CC => ⟨rfl, f8, f7, f9⟩)
theorem ef_bad (m : MethodId) (x0 : Value) (r0 : x0.isRef = true) : entryFrame m #[x0] 1 = mkF m 0 #[.val x0] [] := by
  rcases ref_cases r0 with rfl | ⟨q0, rfl⟩ <;> first | rfl | (simp [entryFrame, mkF, argsToLocals, Value.category, maxLocals]; done)
theorem d9_0 : decode prog_2_method_2_code 0 = .ok (.new 8, 3) := by decide +kernel
theorem d9_3 : decode prog_2_method_2_code 3 = .ok (.dup, 1) := by decide +kernel
theorem d9_4 : decode prog_2_method_2_code 4 = .ok (.sipush 400, 3) := by decide +kernel
theorem d9_7 : decode prog_2_method_2_code 7 = .ok (.aload_n 0, 1) := by decide +kernel
theorem d9_8 : decode prog_2_method_2_code 8 = .ok (.invokespecial 13, 3) := by decide +kernel
theorem pd_7 : parseMethodDescriptor "(ILjava/lang/String;)V" = some ⟨[.int, (.object "java/lang/String")], none⟩ := by decide +kernel
theorem d9_11 : decode prog_2_method_2_code 11 = .ok (.areturn, 1) := by decide +kernel
def Q_bad (Z : State) (msg : Value) (h0 : Heap) (v : Option Value) (h : Heap) (vm : Vm) : Prop := ∃ (r : Addr), v = some (.ref r) ∧ Exa Z h r "com/example/earnest_trail/earnesttrail/ApiException" ∧ Fld Z h r "com/example/earnest_trail/earnesttrail/ApiException" "status" "I" (.int (400 : Int32)) ∧ Fld Z h r "java/lang/Throwable" "detailMessage" "Ljava/lang/String;" msg
set_option maxRecDepth 65536 in
set_option maxHeartbeats 40000000 in
theorem rm_bad (l : Launch) (Z : State) (a0 : Array Value) (hw : ∀ d ∈ tables_1, d.before a0 Z = true) (wl : List Jvm.Cond) (zc : Int32) (ust : Addr) (sen : Value) (S_String_COMPACT_STRINGS : Sta Z Z.heap "java/lang/String" "COMPACT_STRINGS" "Z" (.int zc)) (hzc : ¬ (zc = (0 : Int32))) (hEW : EW Z a0 []) (hst : l.stackTraces = true) (S_Throwable_UNASSIGNED_STACK : Sta Z Z.heap "java/lang/Throwable" "UNASSIGNED_STACK" "[Ljava/lang/StackTraceElement;" (.ref ust)) (S_Throwable_SUPPRESSED_SENTINEL : Sta Z Z.heap "java/lang/Throwable" "SUPPRESSED_SENTINEL" "Ljava/util/List;" sen) (hsen : sen.isRef = true) (msg : Value) (h0 : Heap) (n0 : Nat) (O0 : Old Z n0 h0) (r_msg : msg.isRef = true) :
    Met l (⟨"com/example/earnest_trail/earnesttrail/ApiException", "badRequest", "(Ljava/lang/String;)Lcom/example/earnest_trail/earnesttrail/ApiException;"⟩ : MethodName) prog_2_method_2_code 1 (some (.object "com/example/earnest_trail/earnesttrail/ApiException")) wl ({ frames := 7, cells := 2, slots := 2759, locals := 96 } : Room) Z #[msg] h0 n0 [] [] true [] (Q_bad Z msg h0) := by
  refine met_intro (own := "com/example/earnest_trail/earnesttrail/ApiException") (nm := "badRequest") pn_com_example_earnest_trail_earnesttrail_ApiException rfl rfl O0 hEW ?_
  intro p e s m below meth cC T0 X0 hsf0
  refine Go.cast (ef_bad m (msg) r_msg) ?_
  have n0le := X0.n0le
  refine o_new (pc' := 3) X0 (w_16 hw) (w_17 hw) (w_14 hw) d9_0 rfl (by decide) (by decide) ?_
  intro T1 h1 b1 X1 g1 l1 E1 A1 D1 U1 C1 S1
  have f2 : Fld Z h1 b1 "java/lang/Throwable" "cause" "Ljava/lang/Throwable;" .null := D1 (Or.inl (w_42 hw)) (ty := (.object "java/lang/Throwable")) (by decide)
  have f3 : Fld Z h1 b1 "java/lang/Throwable" "stackTrace" "[Ljava/lang/StackTraceElement;" .null := D1 (Or.inl (w_45 hw)) (ty := (.array (.object "java/lang/StackTraceElement"))) (by decide)
  have f4 : Fld Z h1 b1 "java/lang/Throwable" "suppressedExceptions" "Ljava/util/List;" .null := D1 (Or.inl (w_48 hw)) (ty := (.object "java/util/List")) (by decide)
  have f5 : Fld Z h1 b1 "java/lang/Throwable" "detailMessage" "Ljava/lang/String;" .null := D1 (Or.inl (w_72 hw)) (ty := (.object "java/lang/String")) (by decide)
  have f6 : Fld Z h1 b1 "java/lang/Throwable" "backtrace" "Ljava/lang/Object;" .null := D1 (Or.inl (w_73 hw)) (ty := (.object "java/lang/Object")) (by decide)
  have f7 : Fld Z h1 b1 "java/lang/Throwable" "depth" "I" (.int (0 : Int32)) := D1 (Or.inl (w_74 hw)) (ty := .int) (by decide)
  have f8 : Fld Z h1 b1 "com/example/earnest_trail/earnesttrail/ApiException" "status" "I" (.int (0 : Int32)) := D1 (Or.inr (w_78 hw)) (ty := .int) (by decide)
  refine o_dup (pc' := 4) X1 d9_3 rfl rfl ?_
  refine o_sipush (pc' := 7) (v := (400 : Int32)) X1 d9_4 rfl (by decide) ?_
  refine o_aloadN (pc' := 8) (v := msg) X1 d9_7 rfl rfl r_msg ?_
  refine o_special (pc' := 11) (argsL := [(.int (400 : Int32)), msg]) (rest := [(.ref b1)]) (b := b1) (ws' := [b1]) X1 rfl (w_18 hw) (w_19 hw) (w_20 hw) (by decide) (lenOf pd_7 rfl) (back_met (W := 1) (rm_aeInit l Z a0 hw [] zc ust sen S_String_COMPACT_STRINGS hzc hEW hst S_Throwable_UNASSIGNED_STACK S_Throwable_SUPPRESSED_SENTINEL hsen (b1) ((400 : Int32)) (msg) h1 n0 X1.old A1 U1 f6 (by omega) r_msg) X1 (w_20 hw) (w_14 hw) (by decide) (by decide) (fun _ q => nomatch q)) d9_8 rfl rfl rfl (Nat.le_of_eq rfl) (by decide) (by decide) qq_fr (allS ⟨by omega, (Or.inr (by omega))⟩ all0) ?_
  rintro v9 T9 h9 L9 vm9 X9 ⟨-, -, Q9⟩ K9 C9
  have z9 := K9.1
  obtain ⟨rfl, q10, q11, q12⟩ := Q9
  show Go p.tables e below _ (T9.setTop (mkF m 11 #[.val msg] [(.ref b1)]))
  exact o_aret X9 d9_11 rfl rfl rfl (by decide) (by decide) (fun vm_ CC => ⟨b1, rfl, q10, q11, q12⟩)
theorem ef_status (m : MethodId) (x0 : Addr) : entryFrame m #[(.ref x0)] 1 = mkF m 0 #[.val (.ref x0)] [] := by first | rfl | (simp [entryFrame, mkF, argsToLocals, Value.category, maxLocals]; done)
theorem d10_0 : decode prog_2_method_4_code 0 = .ok (.aload_n 0, 1) := by decide +kernel
theorem d10_1 : decode prog_2_method_4_code 1 = .ok (.getfield 7, 3) := by decide +kernel
theorem d10_4 : decode prog_2_method_4_code 4 = .ok (.ireturn, 1) := by decide +kernel
def Q_status (Z : State) (a : Addr) (x : Int32) (h0 : Heap) (v : Option Value) (h : Heap) (vm : Vm) : Prop := v = some (.int x)
set_option maxRecDepth 65536 in
set_option maxHeartbeats 40000000 in
theorem rm_status (l : Launch) (Z : State) (a0 : Array Value) (hw : ∀ d ∈ tables_1, d.before a0 Z = true) (wl : List Jvm.Cond) (zc : Int32) (ust : Addr) (sen : Value) (S_String_COMPACT_STRINGS : Sta Z Z.heap "java/lang/String" "COMPACT_STRINGS" "Z" (.int zc)) (hzc : ¬ (zc = (0 : Int32))) (hEW : EW Z a0 []) (hst : l.stackTraces = true) (S_Throwable_UNASSIGNED_STACK : Sta Z Z.heap "java/lang/Throwable" "UNASSIGNED_STACK" "[Ljava/lang/StackTraceElement;" (.ref ust)) (S_Throwable_SUPPRESSED_SENTINEL : Sta Z Z.heap "java/lang/Throwable" "SUPPRESSED_SENTINEL" "Ljava/util/List;" sen) (hsen : sen.isRef = true) (a : Addr) (x : Int32) (h0 : Heap) (n0 : Nat) (O0 : Old Z n0 h0) (F0_a_status : Fld Z h0 a "com/example/earnest_trail/earnesttrail/ApiException" "status" "I" (.int x)) :
    Met l (⟨"com/example/earnest_trail/earnesttrail/ApiException", "status", "()I"⟩ : MethodName) prog_2_method_4_code 1 (some .int) wl ({ frames := 0, cells := 0, slots := 0, locals := 0 } : Room) Z #[(.ref a)] h0 n0 [] [] true [] (Q_status Z a x h0) := by
  refine met_intro (own := "com/example/earnest_trail/earnesttrail/ApiException") (nm := "status") pn_com_example_earnest_trail_earnesttrail_ApiException rfl rfl O0 hEW ?_
  intro p e s m below meth cC T0 X0 hsf0
  refine Go.cast (ef_status m (a) ) ?_
  have n0le := X0.n0le
  have lt_a : h0.size > a := F0_a_status.lt
  refine o_aloadN (pc' := 1) (v := (.ref a)) X0 d10_0 rfl rfl rfl ?_
  refine o_getF (pc' := 4) X0 (w_77 hw) Via.refl F0_a_status d10_1 rfl ?_
  intro T1 X2
  exact o_iret X2 d10_4 rfl (by decide) (by decide) (fun vm_ CC => rfl)
theorem ef_getMsg (m : MethodId) (x0 : Addr) : entryFrame m #[(.ref x0)] 1 = mkF m 0 #[.val (.ref x0)] [] := by first | rfl | (simp [entryFrame, mkF, argsToLocals, Value.category, maxLocals]; done)
theorem d11_0 : decode jdk_78_method_6_code 0 = .ok (.aload_n 0, 1) := by decide +kernel
theorem d11_1 : decode jdk_78_method_6_code 1 = .ok (.getfield 31, 3) := by decide +kernel
theorem d11_4 : decode jdk_78_method_6_code 4 = .ok (.areturn, 1) := by decide +kernel
def Q_getMsg (Z : State) (a : Addr) (msg : Value) (h0 : Heap) (v : Option Value) (h : Heap) (vm : Vm) : Prop := v = some msg
set_option maxRecDepth 65536 in
set_option maxHeartbeats 40000000 in
theorem rm_getMsg (l : Launch) (Z : State) (a0 : Array Value) (hw : ∀ d ∈ tables_1, d.before a0 Z = true) (wl : List Jvm.Cond) (zc : Int32) (ust : Addr) (sen : Value) (S_String_COMPACT_STRINGS : Sta Z Z.heap "java/lang/String" "COMPACT_STRINGS" "Z" (.int zc)) (hzc : ¬ (zc = (0 : Int32))) (hEW : EW Z a0 []) (hst : l.stackTraces = true) (S_Throwable_UNASSIGNED_STACK : Sta Z Z.heap "java/lang/Throwable" "UNASSIGNED_STACK" "[Ljava/lang/StackTraceElement;" (.ref ust)) (S_Throwable_SUPPRESSED_SENTINEL : Sta Z Z.heap "java/lang/Throwable" "SUPPRESSED_SENTINEL" "Ljava/util/List;" sen) (hsen : sen.isRef = true) (a : Addr) (msg : Value) (h0 : Heap) (n0 : Nat) (O0 : Old Z n0 h0) (F0_a_detailMessage : Fld Z h0 a "java/lang/Throwable" "detailMessage" "Ljava/lang/String;" msg) (r_msg : msg.isRef = true) :
    Met l (⟨"java/lang/Throwable", "getMessage", "()Ljava/lang/String;"⟩ : MethodName) jdk_78_method_6_code 1 (some (.object "java/lang/String")) wl ({ frames := 0, cells := 0, slots := 0, locals := 0 } : Room) Z #[(.ref a)] h0 n0 [] [] true [] (Q_getMsg Z a msg h0) := by
  refine met_intro (own := "java/lang/Throwable") (nm := "getMessage") pn_java_lang_Throwable rfl rfl O0 hEW ?_
  intro p e s m below meth cC T0 X0 hsf0
  refine Go.cast (ef_getMsg m (a) ) ?_
  have n0le := X0.n0le
  have lt_a : h0.size > a := F0_a_detailMessage.lt
  refine o_aloadN (pc' := 1) (v := (.ref a)) X0 d11_0 rfl rfl rfl ?_
  refine o_getF (pc' := 4) X0 (w_76 hw) Via.refl F0_a_detailMessage d11_1 rfl ?_
  intro T1 X2
  exact o_aret X2 d11_4 rfl rfl r_msg (by decide) (by decide) (fun vm_ CC => rfl)
theorem ef_law (m : MethodId) (x0 : Int32) (x1 : Int32) (x2 : Int32) (x3 : Int32) : entryFrame m #[(.int x0), (.int x1), (.int x2), (.int x3)] maxLocals = mkF m 0 #[.val (.int x0), .val (.int x1), .val (.int x2), .val (.int x3), .unset, .unset, .unset, .unset, .unset] [] := by first | rfl | (simp [entryFrame, mkF, argsToLocals, Value.category, maxLocals]; done)
theorem pd_8 : parseMethodDescriptor "(ICCC)Ljava/lang/String;" = some ⟨[.int, .char, .char, .char], (some (.object "java/lang/String"))⟩ := by decide +kernel
theorem pd_9 : parseMethodDescriptor "(Ljava/lang/String;)Lcom/example/earnest_trail/earnesttrail/ApiException;" = some ⟨[(.object "java/lang/String")], (some (.object "com/example/earnest_trail/earnesttrail/ApiException"))⟩ := by decide +kernel
theorem pd_10 : parseMethodDescriptor "()I" = some ⟨[], (some .int)⟩ := by decide +kernel
theorem pd_11 : parseMethodDescriptor "()Ljava/lang/String;" = some ⟨[], (some (.object "java/lang/String"))⟩ := by decide +kernel
def Q_law (Z : State) (p1 : Int32) (p2 : Int32) (p3 : Int32) (p4 : Int32) (h0 : Heap) (v : Option Value) (h : Heap) (vm : Vm) : Prop := v = some (.int (1 : Int32))
set_option maxRecDepth 65536 in
set_option maxHeartbeats 40000000 in
theorem rm_law (l : Launch) (Z : State) (a0 : Array Value) (hw : ∀ d ∈ tables_1, d.before a0 Z = true) (wl : List Jvm.Cond) (zc : Int32) (ust : Addr) (sen : Value) (S_String_COMPACT_STRINGS : Sta Z Z.heap "java/lang/String" "COMPACT_STRINGS" "Z" (.int zc)) (hzc : ¬ (zc = (0 : Int32))) (hEW : EW Z a0 []) (hst : l.stackTraces = true) (S_Throwable_UNASSIGNED_STACK : Sta Z Z.heap "java/lang/Throwable" "UNASSIGNED_STACK" "[Ljava/lang/StackTraceElement;" (.ref ust)) (S_Throwable_SUPPRESSED_SENTINEL : Sta Z Z.heap "java/lang/Throwable" "SUPPRESSED_SENTINEL" "Ljava/util/List;" sen) (hsen : sen.isRef = true) (p1 : Int32) (p2 : Int32) (p3 : Int32) (p4 : Int32) (h0 : Heap) (n0 : Nat) (O0 : Old Z n0 h0)  :
    Met l x code maxLocals ret wl room_1 Z #[(.int p1), (.int p2), (.int p3), (.int p4)] h0 n0 [] [] true [] (Q_law Z p1 p2 p3 p4 h0) := by
  refine met_intro (own := "com/example/earnest_trail/earnesttrail/ApiExceptionBadRequestPinLaw") (nm := "law") pn_com_example_earnest_trail_earnesttrail_ApiExceptionBadRequestPinLaw rfl rfl O0 hEW ?_
  intro p e s m below meth cC T0 X0 hsf0
  refine Go.cast (ef_law m (p1) (p2) (p3) (p4) ) ?_
  have n0le := X0.n0le
  refine o_iloadN (pc' := 1) (v := p2) X0 at_0 rfl rfl ?_
  refine o_sipush (pc' := 4) (v := (255 : Int32)) X0 at_1 rfl (by decide) ?_
  refine o_iand (pc' := 5) (v := (p2 &&& (255 : Int32))) X0 at_4 rfl rfl ?_
  obtain ⟨c1, ce2⟩ : ∃ z : Int32, (p2 &&& (255 : Int32)).toUInt32.toUInt16.toUInt32.toInt32 = z := ⟨_, rfl⟩
  have cr3 := own_c255 _ _ ce2
  refine o_i2c (pc' := 6) (v := c1) X0 at_5 rfl ce2 ?_
  refine o_istore (pc' := 8) (l' := #[.val (.int p1), .val (.int p2), .val (.int p3), .val (.int p4), .val (.int c1), .unset, .unset, .unset, .unset]) X0 at_6 rfl rfl ?_
  refine o_iloadN (pc' := 9) (v := p3) X0 at_8 rfl rfl ?_
  refine o_sipush (pc' := 12) (v := (255 : Int32)) X0 at_9 rfl (by decide) ?_
  refine o_iand (pc' := 13) (v := (p3 &&& (255 : Int32))) X0 at_12 rfl rfl ?_
  obtain ⟨c4, ce5⟩ : ∃ z : Int32, (p3 &&& (255 : Int32)).toUInt32.toUInt16.toUInt32.toInt32 = z := ⟨_, rfl⟩
  have cr6 := own_c255 _ _ ce5
  refine o_i2c (pc' := 14) (v := c4) X0 at_13 rfl ce5 ?_
  refine o_istore (pc' := 16) (l' := #[.val (.int p1), .val (.int p2), .val (.int p3), .val (.int p4), .val (.int c1), .val (.int c4), .unset, .unset, .unset]) X0 at_14 rfl rfl ?_
  refine o_iloadN (pc' := 17) (v := p4) X0 at_16 rfl rfl ?_
  refine o_sipush (pc' := 20) (v := (255 : Int32)) X0 at_17 rfl (by decide) ?_
  refine o_iand (pc' := 21) (v := (p4 &&& (255 : Int32))) X0 at_20 rfl rfl ?_
  obtain ⟨c7, ce8⟩ : ∃ z : Int32, (p4 &&& (255 : Int32)).toUInt32.toUInt16.toUInt32.toInt32 = z := ⟨_, rfl⟩
  have cr9 := own_c255 _ _ ce8
  refine o_i2c (pc' := 22) (v := c7) X0 at_21 rfl ce8 ?_
  refine o_istore (pc' := 24) (l' := #[.val (.int p1), .val (.int p2), .val (.int p3), .val (.int p4), .val (.int c1), .val (.int c4), .val (.int c7), .unset, .unset]) X0 at_22 rfl rfl ?_
  refine o_iloadN (pc' := 25) (v := p1) X0 at_24 rfl rfl ?_
  refine o_iload (pc' := 27) (v := c1) X0 at_25 rfl rfl ?_
  refine o_iload (pc' := 29) (v := c4) X0 at_27 rfl rfl ?_
  refine o_iload (pc' := 31) (v := c7) X0 at_29 rfl rfl ?_
  refine o_static (pc' := 34) (argsL := [(.int p1), (.int c1), (.int c4), (.int c7)]) (rest := []) (ws' := []) X0 (w_0 hw) (w_1 hw) (w_2 hw) (w_3 hw) (by decide) (lenOf pd_8 rfl) (back_met (W := 0) (rm_draw l Z a0 hw [] zc ust sen S_String_COMPACT_STRINGS hzc hEW hst S_Throwable_UNASSIGNED_STACK S_Throwable_SUPPRESSED_SENTINEL hsen (p1) (c1) (c4) (c7) h0 n0 X0.old cr3 cr6 cr9) X0 (w_3 hw) (w_2 hw) (by decide) (by decide) (fun _ q => nomatch q)) at_31 rfl rfl rfl (Nat.le_of_eq rfl) (by decide) (by decide) qq_fr all0 ?_
  rintro v10 T10 h10 L10 vm10 X10 ⟨-, -, Q10⟩ K10 C10
  have z10 := K10.1
  obtain ⟨r_11, rfl, q12⟩ := Q10
  show Go p.tables e below _ (T10.setTop (mkF m 34 #[.val (.int p1), .val (.int p2), .val (.int p3), .val (.int p4), .val (.int c1), .val (.int c4), .val (.int c7), .unset, .unset] [r_11]))
  refine o_astore (pc' := 36) (l' := #[.val (.int p1), .val (.int p2), .val (.int p3), .val (.int p4), .val (.int c1), .val (.int c4), .val (.int c7), .val r_11, .unset]) X10 at_34 rfl q12 (by rcases ref_cases q12 with q | ⟨_, q⟩ <;> rw [q] <;> rfl) ?_
  refine o_aload (pc' := 38) (v := r_11) X10 at_36 rfl rfl q12 ?_
  refine o_static (pc' := 41) (argsL := [r_11]) (rest := []) (ws' := []) X10 (w_12 hw) (w_13 hw) (w_14 hw) (w_15 hw) (by decide) (lenOf pd_9 rfl) (back_met (W := 0) (rm_bad l Z a0 hw [] zc ust sen S_String_COMPACT_STRINGS hzc hEW hst S_Throwable_UNASSIGNED_STACK S_Throwable_SUPPRESSED_SENTINEL hsen (r_11) h10 n0 X10.old q12) X10 (w_15 hw) (w_14 hw) (by decide) (by decide) (fun _ q => nomatch q)) at_38 rfl rfl rfl (Nat.le_of_eq rfl) (by decide) (by decide) qq_fr all0 ?_
  rintro v13 T13 h13 L13 vm13 X13 ⟨-, -, Q13⟩ K13 C13
  have z13 := K13.1
  obtain ⟨r_14, rfl, q15, q16, q17⟩ := Q13
  show Go p.tables e below _ (T13.setTop (mkF m 41 #[.val (.int p1), .val (.int p2), .val (.int p3), .val (.int p4), .val (.int c1), .val (.int c4), .val (.int c7), .val r_11, .unset] [(.ref r_14)]))
  refine o_astore (pc' := 43) (l' := #[.val (.int p1), .val (.int p2), .val (.int p3), .val (.int p4), .val (.int c1), .val (.int c4), .val (.int c7), .val r_11, .val (.ref r_14)]) X13 at_41 rfl rfl rfl ?_
  refine o_aload (pc' := 45) (v := (.ref r_14)) X13 at_43 rfl rfl rfl ?_
  refine o_ifnonnullYes (pc' := 50) X13 at_45 (by decide) (by decide) ?_
  refine o_aload (pc' := 52) (v := (.ref r_14)) X13 at_50 rfl rfl rfl ?_
  refine o_virtual (pc' := 55) (argsL := []) (rest := []) (b := r_14) (ws' := []) X13 q15 (w_79 hw) (w_80 hw) (w_82 hw) (w_81 hw) (nf_sel (w_82 hw)) (by decide) (lenOf pd_10 rfl) (back_met (W := 0) (rm_status l Z a0 hw [] zc ust sen S_String_COMPACT_STRINGS hzc hEW hst S_Throwable_UNASSIGNED_STACK S_Throwable_SUPPRESSED_SENTINEL hsen (r_14) ((400 : Int32)) h13 n0 X13.old q16) X13 (w_83 hw) (w_14 hw) (by decide) (by decide) (fun _ q => nomatch q)) at_52 rfl rfl rfl (Nat.le_of_eq rfl) (by decide) (by decide) qq_fr all0 ?_
  rintro v18 T18 h18 L18 vm18 X18 ⟨-, -, Q18⟩ K18 C18
  have z18 := K18.1
  obtain rfl := Q18
  show Go p.tables e below _ (T18.setTop (mkF m 55 #[.val (.int p1), .val (.int p2), .val (.int p3), .val (.int p4), .val (.int c1), .val (.int c4), .val (.int c7), .val r_11, .val (.ref r_14)] [(.int (400 : Int32))]))
  refine o_sipush (pc' := 58) (v := (400 : Int32)) X18 at_55 rfl (by decide) ?_
  refine o_icmpNo (pc' := 61) X18 at_58 rfl (teq (by decide)).2 ?_
  refine o_aload (pc' := 63) (v := (.ref r_14)) X18 at_61 rfl rfl rfl ?_
  have f19 := (q17.keep K18 nin0)
  have f21 := (q15.keep K18)
  refine o_virtualUp (pc' := 66) (argsL := []) (rest := []) (b := r_14) (ws' := []) X18 f21 (w_84 hw) (w_85 hw) (w_86 hw) (w_88 hw) (w_87 hw) (by decide) (lenOf pd_11 rfl) (back_met (W := 0) (rm_getMsg l Z a0 hw [] zc ust sen S_String_COMPACT_STRINGS hzc hEW hst S_Throwable_UNASSIGNED_STACK S_Throwable_SUPPRESSED_SENTINEL hsen (r_14) (r_11) h18 n0 X18.old f19 q12) X18 (w_89 hw) (w_36 hw) (by decide) (by decide) (fun _ q => nomatch q)) at_63 rfl rfl rfl (Nat.le_of_eq rfl) (by decide) (by decide) qq_fr all0 ?_
  rintro v20 T20 h20 L20 vm20 X20 ⟨-, -, Q20⟩ K20 C20
  have z20 := K20.1
  obtain rfl := Q20
  show Go p.tables e below _ (T20.setTop (mkF m 66 #[.val (.int p1), .val (.int p2), .val (.int p3), .val (.int p4), .val (.int c1), .val (.int c4), .val (.int c7), .val r_11, .val (.ref r_14)] [r_11]))
  refine o_aload (pc' := 68) (v := r_11) X20 at_66 rfl rfl q12 ?_
  refine o_acmp (pc' := 71) (same := true) X20 at_68 q12 q12 (decide_eq_true rfl) (by decide) (by decide) ?_
  refine o_iconst (pc' := 72) (v := (1 : Int32)) X20 at_71 rfl (by decide) ?_
  refine o_goto (pc' := 76) X20 at_72 (by decide) (by decide) ?_
  exact o_nret (y := (1 : Int32)) (t := .boolean) X20 at_76 rfl (by decide) (by simp) (by decide) (by decide) (fun vm_ CC => rfl)
set_option maxRecDepth 65536 in
set_option maxHeartbeats 40000000 in
theorem comes_1 {Post : Tables → Env → Array Value → State → Outcome → State → Prop} (hpost : ∀ tb e args s v u, (limb_1_1.after args s (.returned v) u = true ∧ limb_1_2.after args s (.returned v) u = true ∧ True) → ReturnedEndW s (.returned v) u (Jvm.fieldLocs frame_1_writes args s ++ Jvm.arrayLocs frame_1_arrays args s ++ Jvm.staticLocs frame_1_statics s) 24 6656 → Post tb e args s (.returned v) u) :
    ArmFor flags0 classFile x code maxLocals ret World_1 tables_1 room_1 Calls_1 rest_1 Pre_1 Post := by
  intro l hfl _ _ p e ha hc hk s m args below hf hA hF happ hP
  obtain ⟨hcalls, hrest, hpre⟩ := hP
  obtain ⟨-, -, -, hnamed, -, -, -, hat⟩ := (Spec.applies_iff hf).mp happ
  obtain ⟨hg, hn⟩ := and_e (Cond.before_iff.mp (show (Jvm.Cond.and given_1 narrow_1).before args s = true from hpre))
  obtain ⟨g0, gt0⟩ := and_e hg
  obtain ⟨ga0, gt1⟩ := and_e gt0
  obtain ⟨ga1, gt2⟩ := and_e gt1
  obtain ⟨ga2, gt3⟩ := and_e gt2
  obtain ⟨v0, v1, v2, v3, rfl⟩ : ∃ v0 v1 v2 v3 : Value, args = #[v0, v1, v2, v3] := by
    have hs : args.size = 4 := by simpa [Cond.value, given_1] using g0
    obtain ⟨L⟩ := args
    match L, hs with
    | [v0, v1, v2, v3], _ => exact ⟨v0, v1, v2, v3, rfl⟩
  have hw := fun d (hd : d ∈ tables_1) => atoms_spec (ws := Jvm.Cond.code x code maxLocals ret :: tables_1) hat d (List.mem_cons_of_mem _ hd)
  have hfit : Fit s := fun {y c} hc i hi => by
    obtain ⟨ha, rfl⟩ := Array.getElem?_eq_some_iff.mp hc
    have q := List.all_eq_true.mp ((Array.all_eq_true_iff_forall_mem.mp hF) _ (Array.getElem_mem ha)) i (List.mem_range.mpr hi)
    simpa [Array.getElem?_eq_getElem hi] using q
  obtain ⟨hsets, hown0⟩ := atoms_of _ (rest_1_c_eq ▸ (show rest_1_c.before _ s = true from hrest))
  obtain ⟨i0, ei0⟩ := is_v ga0
  obtain rfl : v0 = (.int i0) := Option.some.inj ei0
  obtain ⟨i1, ei1⟩ := is_v ga1
  obtain rfl : v1 = (.int i1) := Option.some.inj ei1
  obtain ⟨i2, ei2⟩ := is_v ga2
  obtain rfl : v2 = (.int i2) := Option.some.inj ei2
  obtain ⟨i3, ei3⟩ := is_v gt3
  obtain rfl : v3 = (.int i3) := Option.some.inj ei3
  obtain ⟨zc, ezc⟩ := is_v (Cond.before_iff.mp (hsets _ (List.mem_of_getElem? (i := 21) rfl)))
  have S_zc : Sta s s.heap "java/lang/String" "COMPACT_STRINGS" "Z" (.int zc) := Sta.start ezc (Or.inl (hsets _ (List.mem_of_getElem? (i := 20) rfl)))
  have hzc : ¬ (zc = (0 : Int32)) := gotF (Cond.eq_ints ezc (Term.int_eval (0))) (not_v (Cond.before_iff.mp (hsets _ (List.mem_of_getElem? (i := 22) rfl))))
  have hst : l.stackTraces = true := by rw [Launch.stackTraces, hfl]; decide +kernel
  obtain ⟨ust, eust⟩ := own_arrRef (Cond.before_iff.mp (hsets _ (List.mem_of_getElem? (i := 8) rfl)))
  have S_ust := Sta.start eust (Or.inl (hsets _ (List.mem_of_getElem? (i := 6) rfl)))
  obtain ⟨sen, esen, hsen⟩ := Cond.isRef_spec (hsets _ (List.mem_of_getElem? (i := 12) rfl))
  have S_sen := Sta.start esen (Or.inl (hsets _ (List.mem_of_getElem? (i := 11) rfl)))
  have hCH0 : CHv s [] s.vm s.heap := fun _ q => nomatch q
  have hKn0 : KnP true s.vm below := fun _ => ⟨own_tables hcalls.2.1, own_frames hcalls.1 hf⟩
  obtain ⟨n, o, h1, h2, h3, _, L, rfl, ⟨N, -, rfl⟩, -, hq⟩ := rm_law l s _ hw tables_1 zc ust sen S_zc hzc EW.nil hst S_ust S_sen hsen i0 i1 i2 i3 s.heap s.heap.size (Old.start s) p e ha hc hk s m _ below hf ((Spec.applies_iff_loose hf).mp happ).1 ⟨rfl, State.Warmed39.refl s, rfl, hCH0, fun _ q => nomatch q⟩ hKn0
  refine ⟨n, _, h1, h2, h3, hpost _ _ _ _ _ _ ⟨Cond.after_iff.mpr rfl, Cond.after_iff.mpr (eq_i res_at (Term.int_eval (1)) rfl), trivial⟩ ⟨hq.1, hq.2.1, hq.2.2.1, (hq.2.2.2.sift fun y hy => Or.inr (N y hy)).mono (by decide) (by decide)⟩⟩
theorem main_1_1 : Claimed_1_1 := comes_1 fun _ _ _ _ _ _ h hF => ⟨h.1, hF⟩
theorem main_1_2 : Claimed_1_2 := comes_1 fun _ _ _ _ _ _ h hF => ⟨h.2.1, hF⟩
end Jvm.Pilot.@@N@@
namespace Jvm.Pilot.@@N@@
open Jvm Jvm.ClassFile Sem Op Lib Jvm.Free Jvm.Stand Jvm.Pilot.@@N@@.Jvm.D
/-! MADE BY PROGRAM (witnessworld.py) out of the Statement's table words and the real class files: 36 classes; the members and pool entries that the words name. The judged class is class 1, her method 2. -/
namespace start1
open Jvm.ClassFile
def u (s : String) : CpInfo := .utf8 (stringToUtf16 s)
/-- a pool by its gaps: so many unusable entries, then the entry; so many at the end -/
def gap : Nat → List CpInfo → List CpInfo
  | 0, r => r
  | n + 1, r => .unusable :: gap n r
def poolList (es : List (Nat × CpInfo)) (last : Nat) : List CpInfo := es.foldr (fun e r => gap e.1 (e.2 :: r)) (gap last [])
def pool (es : List (Nat × CpInfo)) (last : Nat) : Array CpInfo := ⟨poolList es last⟩
def fileOf (pool : Array CpInfo) (this : Nat) (attrs : Array Attribute := #[]) (ms : Array MethodInfo := #[]) (fl : Nat := 33) (sup : Nat := 0) (ifs : Array Nat := #[]) (fds : Array FieldInfo := #[]) : ClassFile where
  minorVersion := 0
  majorVersion := 65
  constantPool := pool
  accessFlags := fl
  thisClass := this
  superClass := sup
  interfaces := ifs
  fields := fds
  methods := ms
  attributes := attrs
def plain (name : String) (sup : Option ClassId) : Class where
  name := name
  kind := .ordinary
  loader := none
  accessFlags := 33
  super := sup
  interfaces := #[]
  cf := none
  fields := #[]
  methods := #[]
  instanceTypes := #[]
  staticTypes := #[]
  resolved := #[]
  callSites := []
  init := .initialized
  statics := none
  mirror := none

def pool0 : Array CpInfo := pool [(5, u "<init>"), (0, u "()V"), (1, .class_ 10), (1, u "java/lang/Object")] 113

def k0c0 : Code := { maxStack := 0, maxLocals := 1, code := object_method_1_code, exceptionTable := #[], attributes := #[] }
def k0m0 : Method := { name := "<init>", desc := "()V", sig := { parameters := [], returnType := none }, accessFlags := 1, code := some k0c0 }
/-- java/lang/Object -/
def k0 : Class := { plain "java/lang/Object" none with
  accessFlags := 33
  interfaces := #[]
  cf := some (fileOf pool0 8 #[] #[{ accessFlags := 1, nameIndex := 5, descriptorIndex := 6, attributes := #[] }] 33 0 #[] #[])
  fields := #[]
  methods := #[k0m0]
  instanceTypes := #[]
  staticTypes := #[]
  resolved := Array.replicate 124 none
  statics := none }

def pool1 : Array CpInfo := pool [(2, .class_ 4), (1, u "java/lang/Object"), (0, u "<init>"), (0, u "()V"), (0, .string 8), (0, u ""), (0, .methodref 10 11), (0, .class_ 12), (0, .nameAndType 13 14), (0, u "java/lang/String"), (0, u "valueOf"), (0, u "(C)Ljava/lang/String;"), (0, .methodref 10 16), (0, .nameAndType 5 17), (0, u "([C)V"), (0, .methodref 19 20), (0, .class_ 21), (0, .nameAndType 22 23), (0, u "com/example/earnest_trail/earnesttrail/ApiExceptionBadRequestPinLaw"), (0, u "drawMessage"), (0, u "(ICCC)Ljava/lang/String;"), (0, .methodref 25 26), (0, .class_ 27), (0, .nameAndType 28 29), (0, u "com/example/earnest_trail/earnesttrail/ApiException"), (0, u "badRequest"), (0, u "(Ljava/lang/String;)Lcom/example/earnest_trail/earnesttrail/ApiException;"), (0, .methodref 25 31), (0, .nameAndType 32 33), (0, u "status"), (0, u "()I"), (0, .methodref 25 35), (0, .nameAndType 36 37), (0, u "getMessage"), (0, u "()Ljava/lang/String;"), (3, u "law"), (0, u "(IIII)Z")] 2

def k1m0 : Method := { name := "<init>", desc := "()V", sig := { parameters := [], returnType := none }, accessFlags := 2, code := none }
def k1c1 : Code := { maxStack := 6, maxLocals := 5, code := method_2_code, exceptionTable := #[], attributes := #[] }
def k1m1 : Method := { name := "drawMessage", desc := "(ICCC)Ljava/lang/String;", sig := { parameters := [.int, .char, .char, .char], returnType := some (.object "java/lang/String") }, accessFlags := 10, code := some k1c1 }
def k1c2 : Code := { maxStack := 4, maxLocals := 9, code := code, exceptionTable := #[], attributes := #[] }
def k1m2 : Method := { name := "law", desc := "(IIII)Z", sig := { parameters := [.int, .int, .int, .int], returnType := some .boolean }, accessFlags := 9, code := some k1c2 }
/-- com/example/earnest_trail/earnesttrail/ApiExceptionBadRequestPinLaw -/
def k1 : Class := { plain "com/example/earnest_trail/earnesttrail/ApiExceptionBadRequestPinLaw" (some 0) with
  accessFlags := 49
  interfaces := #[]
  cf := some (fileOf pool1 19 #[] #[{ accessFlags := 2, nameIndex := 5, descriptorIndex := 6, attributes := #[] }, { accessFlags := 10, nameIndex := 22, descriptorIndex := 23, attributes := #[] }, { accessFlags := 9, nameIndex := 41, descriptorIndex := 42, attributes := #[] }] 49 2 #[] #[])
  fields := #[]
  methods := #[k1m0, k1m1, k1m2]
  instanceTypes := #[]
  staticTypes := #[]
  resolved := Array.replicate 45 none
  statics := none }

def pool2 : Array CpInfo := pool [(1, .class_ 2), (0, u "java/io/Serializable"), (0, .class_ 4), (0, u "java/lang/Object")] 2

/-- java/io/Serializable -/
def k2 : Class := { plain "java/io/Serializable" (some 0) with
  accessFlags := 1537
  interfaces := #[]
  cf := some (fileOf pool2 1 #[] #[] 1537 3 #[] #[])
  fields := #[]
  methods := #[]
  instanceTypes := #[]
  staticTypes := #[]
  resolved := Array.replicate 7 none
  statics := none }

def pool3 : Array CpInfo := pool [(1, .class_ 2), (0, u "java/lang/Comparable"), (0, .class_ 4), (0, u "java/lang/Object")] 7

/-- java/lang/Comparable -/
def k3 : Class := { plain "java/lang/Comparable" (some 0) with
  accessFlags := 1537
  interfaces := #[]
  cf := some (fileOf pool3 1 #[] #[] 1537 3 #[] #[])
  fields := #[]
  methods := #[]
  instanceTypes := #[]
  staticTypes := #[]
  resolved := Array.replicate 12 none
  statics := none }

def pool4 : Array CpInfo := pool [(2, .class_ 4), (1, u "java/lang/CharSequence"), (42, .class_ 48), (0, u "java/lang/CharSequence$1CodePointIterator"), (10, .class_ 60), (0, u "java/lang/CharSequence$1CharIterator"), (5, .class_ 67), (0, u "java/lang/Object")] 63

/-- java/lang/CharSequence -/
def k4 : Class := { plain "java/lang/CharSequence" (some 0) with
  accessFlags := 1537
  interfaces := #[]
  cf := some (fileOf pool4 2 #[.nestMembers #[47, 59]] #[] 1537 66 #[] #[])
  fields := #[]
  methods := #[]
  instanceTypes := #[]
  staticTypes := #[]
  resolved := Array.replicate 131 none
  statics := none }

def pool5 : Array CpInfo := pool [(1, .class_ 2), (0, u "java/lang/constant/Constable"), (0, .class_ 4), (0, u "java/lang/Object")] 6

/-- java/lang/constant/Constable -/
def k5 : Class := { plain "java/lang/constant/Constable" (some 0) with
  accessFlags := 1537
  interfaces := #[]
  cf := some (fileOf pool5 1 #[] #[] 1537 3 #[] #[])
  fields := #[]
  methods := #[]
  instanceTypes := #[]
  staticTypes := #[]
  resolved := Array.replicate 11 none
  statics := none }

def pool6 : Array CpInfo := pool [(1, .class_ 2), (0, u "java/lang/constant/ConstantDesc"), (0, .class_ 4), (0, u "java/lang/Object")] 32

/-- java/lang/constant/ConstantDesc -/
def k6 : Class := { plain "java/lang/constant/ConstantDesc" (some 0) with
  accessFlags := 1537
  interfaces := #[]
  cf := some (fileOf pool6 1 #[] #[] 1537 3 #[] #[])
  fields := #[]
  methods := #[]
  instanceTypes := #[]
  staticTypes := #[]
  resolved := Array.replicate 37 none
  statics := none }

def pool7 : Array CpInfo := pool [(1, .methodref 2 3), (0, .class_ 4), (0, .nameAndType 5 6), (0, u "java/lang/Object"), (0, u "<init>"), (0, u "()V"), (2, .fieldref 10 11), (0, .class_ 12), (0, .nameAndType 13 14), (0, u "java/lang/String"), (0, u "value"), (0, u "[B"), (0, .fieldref 10 16), (0, .nameAndType 17 18), (0, u "coder"), (0, u "B"), (2, u "hash"), (0, u "I"), (2, u "hashIsZero"), (0, u "Z"), (0, .methodref 10 28), (0, .nameAndType 5 29), (0, u "([CIILjava/lang/Void;)V"), (8, .fieldref 10 39), (0, .nameAndType 40 26), (0, u "COMPACT_STRINGS"), (1, .class_ 44), (1, u "java/lang/StringUTF16"), (0, u "compress"), (1, .methodref 42 48), (0, .nameAndType 49 50), (0, u "coderFromArrayLen"), (0, u "([BI)B"), (2, u "toBytes"), (53, .class_ 109), (1, u "java/lang/StringLatin1"), (67, .methodref 42 178), (0, .nameAndType 45 179), (0, u "([CII)[B"), (29, .methodref 10 210), (0, .nameAndType 5 211), (0, u "([BB)V"), (157, u "(C)Z"), (205, .class_ 576), (0, u "java/lang/CharSequence"), (22, u "CASE_INSENSITIVE_ORDER"), (0, u "Ljava/util/Comparator;"), (181, u "valueOf"), (0, u "(C)Ljava/lang/String;"), (226, u "([C)V"), (4, .methodref 107 1016), (0, .nameAndType 1017 369), (0, u "canEncode"), (0, .methodref 107 1019), (0, .nameAndType 53 1020), (0, u "(C)[B"), (80, u "serialPersistentFields"), (0, u "[Ljava/io/ObjectStreamField;"), (0, .class_ 1104), (0, u "java/lang/String$CaseInsensitiveComparator"), (1, .class_ 1107), (0, u "java/io/Serializable"), (0, .class_ 1109), (0, u "java/lang/Comparable"), (0, .class_ 1111), (0, u "java/lang/constant/Constable"), (0, .class_ 1113), (0, u "java/lang/constant/ConstantDesc"), (2, u "serialVersionUID"), (0, u "J"), (3, u "REPL"), (0, u "C"), (2, u "LATIN1"), (1, u "UTF16")] 323

def k7m0 : Method := { name := "<init>", desc := "()V", sig := { parameters := [], returnType := none }, accessFlags := 1, code := none }
def k7c1 : Code := { maxStack := 5, maxLocals := 2, code := jdk_42_method_3_code, exceptionTable := #[], attributes := #[] }
def k7m1 : Method := { name := "<init>", desc := "([C)V", sig := { parameters := [(.array .char)], returnType := none }, accessFlags := 1, code := some k7c1 }
def k7c2 : Code := { maxStack := 4, maxLocals := 1, code := jdk_42_method_139_code, exceptionTable := #[], attributes := #[] }
def k7m2 : Method := { name := "valueOf", desc := "(C)Ljava/lang/String;", sig := { parameters := [.char], returnType := some (.object "java/lang/String") }, accessFlags := 9, code := some k7c2 }
def k7c3 : Code := { maxStack := 4, maxLocals := 6, code := jdk_42_method_149_code, exceptionTable := #[], attributes := #[] }
def k7m3 : Method := { name := "<init>", desc := "([CIILjava/lang/Void;)V", sig := { parameters := [(.array .char), .int, .int, (.object "java/lang/Void")], returnType := none }, accessFlags := 2, code := some k7c3 }
def k7c4 : Code := { maxStack := 2, maxLocals := 3, code := jdk_42_method_151_code, exceptionTable := #[], attributes := #[] }
def k7m4 : Method := { name := "<init>", desc := "([BB)V", sig := { parameters := [(.array .byte), .byte], returnType := none }, accessFlags := 0, code := some k7c4 }
/-- java/lang/String -/
def k7 : Class := { plain "java/lang/String" (some 0) with
  accessFlags := 49
  interfaces := #[2, 3, 4, 5, 6]
  cf := some (fileOf pool7 10 #[.nestMembers #[1103]] #[{ accessFlags := 1, nameIndex := 5, descriptorIndex := 6, attributes := #[] }, { accessFlags := 1, nameIndex := 5, descriptorIndex := 1010, attributes := #[] }, { accessFlags := 9, nameIndex := 782, descriptorIndex := 783, attributes := #[] }, { accessFlags := 2, nameIndex := 5, descriptorIndex := 29, attributes := #[] }, { accessFlags := 0, nameIndex := 5, descriptorIndex := 211, attributes := #[] }] 49 2 #[1106, 1108, 575, 1110, 1112] #[{ accessFlags := 18, nameIndex := 13, descriptorIndex := 14, attributes := #[] }, { accessFlags := 18, nameIndex := 17, descriptorIndex := 18, attributes := #[] }, { accessFlags := 2, nameIndex := 21, descriptorIndex := 22, attributes := #[] }, { accessFlags := 2, nameIndex := 25, descriptorIndex := 26, attributes := #[] }, { accessFlags := 26, nameIndex := 1116, descriptorIndex := 1117, attributes := #[] }, { accessFlags := 24, nameIndex := 40, descriptorIndex := 26, attributes := #[] }, { accessFlags := 26, nameIndex := 1101, descriptorIndex := 1102, attributes := #[] }, { accessFlags := 26, nameIndex := 1121, descriptorIndex := 1122, attributes := #[] }, { accessFlags := 25, nameIndex := 599, descriptorIndex := 600, attributes := #[] }, { accessFlags := 24, nameIndex := 1125, descriptorIndex := 18, attributes := #[] }, { accessFlags := 24, nameIndex := 1127, descriptorIndex := 18, attributes := #[] }])
  fields := #[{ name := "value", type := (.array .byte), accessFlags := 18, slot := 0, constantValue := 0 }, { name := "coder", type := .byte, accessFlags := 18, slot := 1, constantValue := 0 }, { name := "hash", type := .int, accessFlags := 2, slot := 2, constantValue := 0 }, { name := "hashIsZero", type := .boolean, accessFlags := 2, slot := 3, constantValue := 0 }, { name := "serialVersionUID", type := .long, accessFlags := 26, slot := 0, constantValue := 0 }, { name := "COMPACT_STRINGS", type := .boolean, accessFlags := 24, slot := 1, constantValue := 0 }, { name := "serialPersistentFields", type := (.array (.object "java/io/ObjectStreamField")), accessFlags := 26, slot := 2, constantValue := 0 }, { name := "REPL", type := .char, accessFlags := 26, slot := 3, constantValue := 0 }, { name := "CASE_INSENSITIVE_ORDER", type := (.object "java/util/Comparator"), accessFlags := 25, slot := 4, constantValue := 0 }, { name := "LATIN1", type := .byte, accessFlags := 24, slot := 5, constantValue := 0 }, { name := "UTF16", type := .byte, accessFlags := 24, slot := 6, constantValue := 0 }]
  methods := #[k7m0, k7m1, k7m2, k7m3, k7m4]
  instanceTypes := #[(.array .byte), .byte, .int, .boolean]
  staticTypes := #[.long, .boolean, (.array (.object "java/io/ObjectStreamField")), .char, (.object "java/util/Comparator"), .byte, .byte]
  resolved := Array.replicate 1451 none
  statics := some 0 }

def pool8 : Array CpInfo := pool [(1, .methodref 2 3), (0, .class_ 4), (0, .nameAndType 5 6), (0, u "java/lang/Object"), (0, u "<init>"), (0, u "()V"), (0, .fieldref 8 9), (0, .class_ 10), (0, .nameAndType 11 12), (0, u "java/lang/Throwable"), (0, u "cause"), (0, u "Ljava/lang/Throwable;"), (0, .fieldref 8 14), (0, .nameAndType 15 16), (0, u "UNASSIGNED_STACK"), (0, u "[Ljava/lang/StackTraceElement;"), (0, .fieldref 8 18), (0, .nameAndType 19 16), (0, u "stackTrace"), (0, .fieldref 8 21), (0, .nameAndType 22 23), (0, u "SUPPRESSED_SENTINEL"), (0, u "Ljava/util/List;"), (0, .fieldref 8 25), (0, .nameAndType 26 23), (0, u "suppressedExceptions"), (0, .methodref 8 28), (0, .nameAndType 29 30), (0, u "fillInStackTrace"), (0, u "()Ljava/lang/Throwable;"), (0, .fieldref 8 32), (0, .nameAndType 33 34), (0, u "detailMessage"), (0, u "Ljava/lang/String;"), (3, u "()Ljava/lang/String;"), (2, u "getMessage"), (51, .class_ 94), (0, u "java/lang/Throwable$WrappedPrintStream"), (6, .class_ 103), (1, u "java/lang/Throwable$PrintStreamOrWriter"), (61, u "$assertionsDisabled"), (0, u "Z"), (26, .class_ 194), (0, u "java/lang/Throwable$WrappedPrintWriter"), (3, .fieldref 8 199), (0, .nameAndType 200 201), (0, u "backtrace"), (0, u "Ljava/lang/Object;"), (0, .methodref 8 203), (0, .nameAndType 29 204), (0, u "(I)Ljava/lang/Throwable;"), (6, u "depth"), (0, u "I"), (10, u "(Ljava/lang/String;)V"), (45, .class_ 271), (1, u "java/lang/Throwable$SentinelHolder"), (32, u "EMPTY_THROWABLE_ARRAY"), (0, u "[Ljava/lang/Throwable;"), (12, .class_ 319), (0, u "java/io/Serializable"), (0, u "serialVersionUID"), (0, u "J"), (5, u "NULL_CAUSE_MESSAGE"), (0, u "SELF_SUPPRESSION_MESSAGE"), (0, u "CAUSE_CAPTION"), (0, u "SUPPRESSED_CAPTION")] 73

def k8c0 : Code := { maxStack := 2, maxLocals := 1, code := jdk_78_method_1_code, exceptionTable := #[], attributes := #[] }
def k8m0 : Method := { name := "<init>", desc := "()V", sig := { parameters := [], returnType := none }, accessFlags := 1, code := some k8c0 }
def k8c1 : Code := { maxStack := 2, maxLocals := 2, code := jdk_78_method_2_code, exceptionTable := #[], attributes := #[] }
def k8m1 : Method := { name := "<init>", desc := "(Ljava/lang/String;)V", sig := { parameters := [(.object "java/lang/String")], returnType := none }, accessFlags := 1, code := some k8c1 }
def k8c2 : Code := { maxStack := 1, maxLocals := 1, code := jdk_78_method_6_code, exceptionTable := #[], attributes := #[] }
def k8m2 : Method := { name := "getMessage", desc := "()Ljava/lang/String;", sig := { parameters := [], returnType := some (.object "java/lang/String") }, accessFlags := 1, code := some k8c2 }
def k8c3 : Code := { maxStack := 2, maxLocals := 1, code := jdk_78_method_18_code, exceptionTable := #[], attributes := #[] }
def k8m3 : Method := { name := "fillInStackTrace", desc := "()Ljava/lang/Throwable;", sig := { parameters := [], returnType := some (.object "java/lang/Throwable") }, accessFlags := 33, code := some k8c3 }
def k8m4 : Method := { name := "fillInStackTrace", desc := "(I)Ljava/lang/Throwable;", sig := { parameters := [.int], returnType := some (.object "java/lang/Throwable") }, accessFlags := 258, code := none }
/-- java/lang/Throwable -/
def k8 : Class := { plain "java/lang/Throwable" (some 0) with
  accessFlags := 33
  interfaces := #[2]
  cf := some (fileOf pool8 8 #[.nestMembers #[193, 93, 101, 269]] #[{ accessFlags := 1, nameIndex := 5, descriptorIndex := 6, attributes := #[] }, { accessFlags := 1, nameIndex := 5, descriptorIndex := 223, attributes := #[] }, { accessFlags := 1, nameIndex := 41, descriptorIndex := 38, attributes := #[] }, { accessFlags := 33, nameIndex := 29, descriptorIndex := 30, attributes := #[] }, { accessFlags := 258, nameIndex := 29, descriptorIndex := 204, attributes := #[] }] 33 2 #[318] #[{ accessFlags := 26, nameIndex := 320, descriptorIndex := 321, attributes := #[] }, { accessFlags := 130, nameIndex := 200, descriptorIndex := 201, attributes := #[] }, { accessFlags := 2, nameIndex := 33, descriptorIndex := 34, attributes := #[] }, { accessFlags := 26, nameIndex := 15, descriptorIndex := 16, attributes := #[] }, { accessFlags := 2, nameIndex := 11, descriptorIndex := 12, attributes := #[] }, { accessFlags := 2, nameIndex := 19, descriptorIndex := 16, attributes := #[] }, { accessFlags := 130, nameIndex := 211, descriptorIndex := 212, attributes := #[] }, { accessFlags := 26, nameIndex := 22, descriptorIndex := 23, attributes := #[] }, { accessFlags := 2, nameIndex := 26, descriptorIndex := 23, attributes := #[] }, { accessFlags := 26, nameIndex := 327, descriptorIndex := 34, attributes := #[] }, { accessFlags := 26, nameIndex := 328, descriptorIndex := 34, attributes := #[] }, { accessFlags := 26, nameIndex := 329, descriptorIndex := 34, attributes := #[] }, { accessFlags := 26, nameIndex := 330, descriptorIndex := 34, attributes := #[] }, { accessFlags := 26, nameIndex := 304, descriptorIndex := 305, attributes := #[] }, { accessFlags := 4120, nameIndex := 165, descriptorIndex := 166, attributes := #[] }])
  fields := #[{ name := "serialVersionUID", type := .long, accessFlags := 26, slot := 0, constantValue := 0 }, { name := "backtrace", type := (.object "java/lang/Object"), accessFlags := 130, slot := 0, constantValue := 0 }, { name := "detailMessage", type := (.object "java/lang/String"), accessFlags := 2, slot := 1, constantValue := 0 }, { name := "UNASSIGNED_STACK", type := (.array (.object "java/lang/StackTraceElement")), accessFlags := 26, slot := 1, constantValue := 0 }, { name := "cause", type := (.object "java/lang/Throwable"), accessFlags := 2, slot := 2, constantValue := 0 }, { name := "stackTrace", type := (.array (.object "java/lang/StackTraceElement")), accessFlags := 2, slot := 3, constantValue := 0 }, { name := "depth", type := .int, accessFlags := 130, slot := 4, constantValue := 0 }, { name := "SUPPRESSED_SENTINEL", type := (.object "java/util/List"), accessFlags := 26, slot := 2, constantValue := 0 }, { name := "suppressedExceptions", type := (.object "java/util/List"), accessFlags := 2, slot := 5, constantValue := 0 }, { name := "NULL_CAUSE_MESSAGE", type := (.object "java/lang/String"), accessFlags := 26, slot := 3, constantValue := 0 }, { name := "SELF_SUPPRESSION_MESSAGE", type := (.object "java/lang/String"), accessFlags := 26, slot := 4, constantValue := 0 }, { name := "CAUSE_CAPTION", type := (.object "java/lang/String"), accessFlags := 26, slot := 5, constantValue := 0 }, { name := "SUPPRESSED_CAPTION", type := (.object "java/lang/String"), accessFlags := 26, slot := 6, constantValue := 0 }, { name := "EMPTY_THROWABLE_ARRAY", type := (.array (.object "java/lang/Throwable")), accessFlags := 26, slot := 7, constantValue := 0 }, { name := "$assertionsDisabled", type := .boolean, accessFlags := 4120, slot := 8, constantValue := 0 }]
  methods := #[k8m0, k8m1, k8m2, k8m3, k8m4]
  instanceTypes := #[(.object "java/lang/Object"), (.object "java/lang/String"), (.object "java/lang/Throwable"), (.array (.object "java/lang/StackTraceElement")), .int, (.object "java/util/List")]
  staticTypes := #[.long, (.array (.object "java/lang/StackTraceElement")), (.object "java/util/List"), (.object "java/lang/String"), (.object "java/lang/String"), (.object "java/lang/String"), (.object "java/lang/String"), (.array (.object "java/lang/Throwable")), .boolean]
  resolved := Array.replicate 404 none
  statics := some 1 }

def pool9 : Array CpInfo := pool [(2, .class_ 4), (1, u "java/lang/Throwable"), (0, u "<init>"), (0, u "()V"), (0, .methodref 2 8), (0, .nameAndType 5 9), (0, u "(Ljava/lang/String;)V"), (9, .class_ 20), (0, u "java/lang/Exception"), (0, u "serialVersionUID"), (0, u "J")] 17

def k9m0 : Method := { name := "<init>", desc := "()V", sig := { parameters := [], returnType := none }, accessFlags := 1, code := none }
def k9c1 : Code := { maxStack := 2, maxLocals := 2, code := jdk_59_method_2_code, exceptionTable := #[], attributes := #[] }
def k9m1 : Method := { name := "<init>", desc := "(Ljava/lang/String;)V", sig := { parameters := [(.object "java/lang/String")], returnType := none }, accessFlags := 1, code := some k9c1 }
/-- java/lang/Exception -/
def k9 : Class := { plain "java/lang/Exception" (some 8) with
  accessFlags := 33
  interfaces := #[]
  cf := some (fileOf pool9 19 #[] #[{ accessFlags := 1, nameIndex := 5, descriptorIndex := 6, attributes := #[] }, { accessFlags := 1, nameIndex := 5, descriptorIndex := 9, attributes := #[] }] 33 2 #[] #[{ accessFlags := 24, nameIndex := 21, descriptorIndex := 22, attributes := #[] }])
  fields := #[{ name := "serialVersionUID", type := .long, accessFlags := 24, slot := 0, constantValue := 0 }]
  methods := #[k9m0, k9m1]
  instanceTypes := #[(.object "java/lang/Object"), (.object "java/lang/String"), (.object "java/lang/Throwable"), (.array (.object "java/lang/StackTraceElement")), .int, (.object "java/util/List")]
  staticTypes := #[.long]
  resolved := Array.replicate 40 none
  statics := none }

def pool10 : Array CpInfo := pool [(2, .class_ 4), (1, u "java/lang/Exception"), (0, u "<init>"), (0, u "()V"), (0, .methodref 2 8), (0, .nameAndType 5 9), (0, u "(Ljava/lang/String;)V"), (9, .class_ 20), (0, u "java/lang/RuntimeException"), (0, u "serialVersionUID"), (0, u "J")] 17

def k10m0 : Method := { name := "<init>", desc := "()V", sig := { parameters := [], returnType := none }, accessFlags := 1, code := none }
def k10c1 : Code := { maxStack := 2, maxLocals := 2, code := jdk_58_method_2_code, exceptionTable := #[], attributes := #[] }
def k10m1 : Method := { name := "<init>", desc := "(Ljava/lang/String;)V", sig := { parameters := [(.object "java/lang/String")], returnType := none }, accessFlags := 1, code := some k10c1 }
/-- java/lang/RuntimeException -/
def k10 : Class := { plain "java/lang/RuntimeException" (some 9) with
  accessFlags := 33
  interfaces := #[]
  cf := some (fileOf pool10 19 #[] #[{ accessFlags := 1, nameIndex := 5, descriptorIndex := 6, attributes := #[] }, { accessFlags := 1, nameIndex := 5, descriptorIndex := 9, attributes := #[] }] 33 2 #[] #[{ accessFlags := 24, nameIndex := 21, descriptorIndex := 22, attributes := #[] }])
  fields := #[{ name := "serialVersionUID", type := .long, accessFlags := 24, slot := 0, constantValue := 0 }]
  methods := #[k10m0, k10m1]
  instanceTypes := #[(.object "java/lang/Object"), (.object "java/lang/String"), (.object "java/lang/Throwable"), (.array (.object "java/lang/StackTraceElement")), .int, (.object "java/util/List")]
  staticTypes := #[.long]
  resolved := Array.replicate 40 none
  statics := none }

def pool11 : Array CpInfo := pool [(1, .methodref 2 3), (0, .class_ 4), (0, .nameAndType 5 6), (0, u "java/lang/RuntimeException"), (0, u "<init>"), (0, u "(Ljava/lang/String;)V"), (0, .fieldref 8 9), (0, .class_ 10), (0, .nameAndType 11 12), (0, u "com/example/earnest_trail/earnesttrail/ApiException"), (0, u "status"), (0, u "I"), (0, .methodref 8 14), (0, .nameAndType 5 15), (0, u "(ILjava/lang/String;)V"), (0, u "serialVersionUID"), (0, u "J"), (5, u "badRequest"), (0, u "(Ljava/lang/String;)Lcom/example/earnest_trail/earnesttrail/ApiException;"), (1, u "()I")] 2

def k11c0 : Code := { maxStack := 2, maxLocals := 3, code := prog_2_method_1_code, exceptionTable := #[], attributes := #[] }
def k11m0 : Method := { name := "<init>", desc := "(ILjava/lang/String;)V", sig := { parameters := [.int, (.object "java/lang/String")], returnType := none }, accessFlags := 0, code := some k11c0 }
def k11c1 : Code := { maxStack := 4, maxLocals := 1, code := prog_2_method_2_code, exceptionTable := #[], attributes := #[] }
def k11m1 : Method := { name := "badRequest", desc := "(Ljava/lang/String;)Lcom/example/earnest_trail/earnesttrail/ApiException;", sig := { parameters := [(.object "java/lang/String")], returnType := some (.object "com/example/earnest_trail/earnesttrail/ApiException") }, accessFlags := 8, code := some k11c1 }
def k11c2 : Code := { maxStack := 1, maxLocals := 1, code := prog_2_method_4_code, exceptionTable := #[], attributes := #[] }
def k11m2 : Method := { name := "status", desc := "()I", sig := { parameters := [], returnType := some .int }, accessFlags := 0, code := some k11c2 }
/-- com/example/earnest_trail/earnesttrail/ApiException -/
def k11 : Class := { plain "com/example/earnest_trail/earnesttrail/ApiException" (some 10) with
  accessFlags := 48
  interfaces := #[]
  cf := some (fileOf pool11 8 #[] #[{ accessFlags := 0, nameIndex := 5, descriptorIndex := 15, attributes := #[] }, { accessFlags := 8, nameIndex := 23, descriptorIndex := 24, attributes := #[] }, { accessFlags := 0, nameIndex := 11, descriptorIndex := 26, attributes := #[] }] 48 2 #[] #[{ accessFlags := 26, nameIndex := 16, descriptorIndex := 17, attributes := #[] }, { accessFlags := 18, nameIndex := 11, descriptorIndex := 12, attributes := #[] }])
  fields := #[{ name := "serialVersionUID", type := .long, accessFlags := 26, slot := 0, constantValue := 0 }, { name := "status", type := .int, accessFlags := 18, slot := 6, constantValue := 0 }]
  methods := #[k11m0, k11m1, k11m2]
  instanceTypes := #[(.object "java/lang/Object"), (.object "java/lang/String"), (.object "java/lang/Throwable"), (.array (.object "java/lang/StackTraceElement")), .int, (.object "java/util/List"), .int]
  staticTypes := #[.long]
  resolved := Array.replicate 29 none
  statics := none }

def pool12 : Array CpInfo := pool [(6, .class_ 8), (1, u "java/lang/Object"), (0, u "<init>"), (0, u "()V"), (1, .class_ 14), (1, u "java/lang/StringUTF16"), (31, u "$assertionsDisabled"), (0, u "Z"), (13, u "HI_BYTE_SHIFT"), (0, u "I"), (2, u "LO_BYTE_SHIFT"), (49, .methodref 12 116), (0, .nameAndType 117 118), (0, u "compress"), (0, u "([CI[BII)I"), (3, u "([CII)[B"), (138, u "coderFromArrayLen"), (0, u "([BI)B"), (106, .class_ 371), (1, u "java/lang/StringUTF16$LinesSpliterator"), (58, u "MAX_LENGTH"), (196, .class_ 628), (0, u "java/lang/StringUTF16$CodePointsSpliterator"), (0, .class_ 630), (0, u "java/lang/StringUTF16$CharsSpliterator")] 4

def k12m0 : Method := { name := "<init>", desc := "()V", sig := { parameters := [], returnType := none }, accessFlags := 0, code := none }
def k12c1 : Code := { maxStack := 2, maxLocals := 2, code := jdk_52_method_15_code, exceptionTable := #[], attributes := #[] }
def k12m1 : Method := { name := "coderFromArrayLen", desc := "([BI)B", sig := { parameters := [(.array .byte), .int], returnType := some .byte }, accessFlags := 8, code := some k12c1 }
def k12c2 : Code := { maxStack := 5, maxLocals := 6, code := jdk_52_method_16_code, exceptionTable := #[], attributes := #[] }
def k12m2 : Method := { name := "compress", desc := "([CII)[B", sig := { parameters := [(.array .char), .int, .int], returnType := some (.array .byte) }, accessFlags := 9, code := some k12c2 }
def k12c3 : Code := { maxStack := 3, maxLocals := 7, code := jdk_52_method_21_code, exceptionTable := #[], attributes := #[] }
def k12m3 : Method := { name := "compress", desc := "([CI[BII)I", sig := { parameters := [(.array .char), .int, (.array .byte), .int, .int], returnType := some .int }, accessFlags := 9, code := some k12c3 }
/-- java/lang/StringUTF16 -/
def k12 : Class := { plain "java/lang/StringUTF16" (some 0) with
  accessFlags := 48
  interfaces := #[]
  cf := some (fileOf pool12 12 #[.nestMembers #[627, 629, 369]] #[{ accessFlags := 0, nameIndex := 9, descriptorIndex := 10, attributes := #[] }, { accessFlags := 8, nameIndex := 261, descriptorIndex := 262, attributes := #[] }, { accessFlags := 9, nameIndex := 117, descriptorIndex := 122, attributes := #[] }, { accessFlags := 9, nameIndex := 117, descriptorIndex := 118, attributes := #[] }] 48 6 #[] #[{ accessFlags := 26, nameIndex := 61, descriptorIndex := 62, attributes := #[] }, { accessFlags := 26, nameIndex := 65, descriptorIndex := 62, attributes := #[] }, { accessFlags := 24, nameIndex := 430, descriptorIndex := 62, attributes := #[] }, { accessFlags := 4120, nameIndex := 46, descriptorIndex := 47, attributes := #[] }])
  fields := #[{ name := "HI_BYTE_SHIFT", type := .int, accessFlags := 26, slot := 0, constantValue := 0 }, { name := "LO_BYTE_SHIFT", type := .int, accessFlags := 26, slot := 1, constantValue := 0 }, { name := "MAX_LENGTH", type := .int, accessFlags := 24, slot := 2, constantValue := 0 }, { name := "$assertionsDisabled", type := .boolean, accessFlags := 4120, slot := 3, constantValue := 0 }]
  methods := #[k12m0, k12m1, k12m2, k12m3]
  instanceTypes := #[]
  staticTypes := #[.int, .int, .int, .boolean]
  resolved := Array.replicate 635 none
  statics := none }

def pool13 : Array CpInfo := pool [(4, .class_ 6), (1, u "java/lang/Object"), (0, u "<init>"), (0, u "()V"), (5, .class_ 16), (1, u "java/lang/StringLatin1"), (73, u "canEncode"), (14, u "(C)Z"), (15, u "$assertionsDisabled"), (0, u "Z"), (98, .class_ 223), (1, u "java/lang/StringLatin1$LinesSpliterator"), (156, u "toBytes"), (1, u "(C)[B"), (7, .class_ 391), (0, u "java/lang/StringLatin1$CharsSpliterator")] 3

def k13m0 : Method := { name := "<init>", desc := "()V", sig := { parameters := [], returnType := none }, accessFlags := 0, code := none }
def k13c1 : Code := { maxStack := 2, maxLocals := 1, code := jdk_43_method_3_code, exceptionTable := #[], attributes := #[] }
def k13m1 : Method := { name := "canEncode", desc := "(C)Z", sig := { parameters := [.char], returnType := some .boolean }, accessFlags := 9, code := some k13c1 }
def k13c2 : Code := { maxStack := 4, maxLocals := 1, code := jdk_43_method_46_code, exceptionTable := #[], attributes := #[] }
def k13m2 : Method := { name := "toBytes", desc := "(C)[B", sig := { parameters := [.char], returnType := some (.array .byte) }, accessFlags := 9, code := some k13c2 }
/-- java/lang/StringLatin1 -/
def k13 : Class := { plain "java/lang/StringLatin1" (some 0) with
  accessFlags := 48
  interfaces := #[]
  cf := some (fileOf pool13 14 #[.nestMembers #[390, 221]] #[{ accessFlags := 0, nameIndex := 7, descriptorIndex := 8, attributes := #[] }, { accessFlags := 9, nameIndex := 90, descriptorIndex := 105, attributes := #[] }, { accessFlags := 9, nameIndex := 380, descriptorIndex := 382, attributes := #[] }] 48 4 #[] #[{ accessFlags := 4120, nameIndex := 121, descriptorIndex := 122, attributes := #[] }])
  fields := #[{ name := "$assertionsDisabled", type := .boolean, accessFlags := 4120, slot := 0, constantValue := 0 }]
  methods := #[k13m0, k13m1, k13m2]
  instanceTypes := #[]
  staticTypes := #[.boolean]
  resolved := Array.replicate 395 none
  statics := none }

def pool14 : Array CpInfo := pool [(2, .class_ 4), (1, u "java/lang/Object"), (0, u "<init>"), (0, u "()V"), (12, .class_ 20), (0, u "java/util/Collections"), (63, u "r"), (0, u "Ljava/util/Random;"), (80, .class_ 167), (0, u "java/util/Collections$UnmodifiableCollection"), (6, .class_ 175), (0, u "java/util/Collections$UnmodifiableSequencedCollection"), (6, .class_ 183), (0, u "java/util/Collections$UnmodifiableSet"), (6, .class_ 191), (0, u "java/util/Collections$UnmodifiableSequencedSet"), (6, .class_ 199), (0, u "java/util/Collections$UnmodifiableSortedSet"), (6, .class_ 207), (0, u "java/util/Collections$UnmodifiableNavigableSet"), (4, .class_ 213), (0, u "java/util/Collections$UnmodifiableList"), (1, .class_ 216), (0, u "java/util/Collections$UnmodifiableRandomAccessList"), (6, .class_ 224), (0, u "java/util/Collections$UnmodifiableMap"), (6, .class_ 232), (0, u "java/util/Collections$UnmodifiableSequencedMap"), (4, .class_ 238), (0, u "java/util/Collections$UnmodifiableSortedMap"), (6, .class_ 246), (0, u "java/util/Collections$UnmodifiableNavigableMap"), (3, .class_ 251), (0, u "java/util/Collections$SynchronizedCollection"), (4, .class_ 257), (0, u "java/util/Collections$SynchronizedSet"), (4, .class_ 263), (0, u "java/util/Collections$SynchronizedSortedSet"), (1, .class_ 266), (0, u "java/util/Collections$SynchronizedNavigableSet"), (1, .class_ 269), (0, u "java/util/Collections$SynchronizedRandomAccessList"), (1, .class_ 272), (0, u "java/util/Collections$SynchronizedList"), (5, .class_ 279), (0, u "java/util/Collections$SynchronizedMap"), (1, .class_ 282), (0, u "java/util/Collections$SynchronizedSortedMap"), (1, .class_ 285), (0, u "java/util/Collections$SynchronizedNavigableMap"), (1, .class_ 288), (0, u "java/util/Collections$CheckedCollection"), (11, .class_ 301), (0, u "java/util/Collections$CheckedQueue"), (3, .class_ 306), (0, u "java/util/Collections$CheckedSet"), (3, .class_ 311), (0, u "java/util/Collections$CheckedSortedSet"), (3, .class_ 316), (0, u "java/util/Collections$CheckedNavigableSet"), (3, .class_ 321), (0, u "java/util/Collections$CheckedRandomAccessList"), (3, .class_ 326), (0, u "java/util/Collections$CheckedList"), (1, .class_ 329), (0, u "java/util/Collections$CheckedMap"), (3, .class_ 334), (0, u "java/util/Collections$CheckedSortedMap"), (3, .class_ 339), (0, u "java/util/Collections$CheckedNavigableMap"), (4, .class_ 346), (1, u "java/util/Collections$EmptyIterator"), (3, .class_ 352), (1, u "java/util/Collections$EmptyListIterator"), (2, .class_ 357), (1, u "java/util/Collections$EmptyEnumeration"), (4, u "EMPTY_SET"), (0, u "Ljava/util/Set;"), (6, u "EMPTY_LIST"), (0, u "Ljava/util/List;"), (2, u "EMPTY_MAP"), (0, u "Ljava/util/Map;"), (4, .class_ 381), (0, u "java/util/Collections$SingletonSet"), (2, .class_ 385), (0, u "java/util/Collections$1"), (1, .class_ 388), (0, u "java/util/Collections$2"), (1, .class_ 391), (0, u "java/util/Collections$SingletonList"), (1, .class_ 394), (0, u "java/util/Collections$SingletonMap"), (22, .class_ 418), (0, u "java/util/Collections$CopiesList"), (4, .class_ 425), (1, u "java/util/Collections$ReverseComparator"), (8, .class_ 435), (0, u "java/util/Collections$ReverseComparator2"), (6, .class_ 443), (0, u "java/util/Collections$3"), (25, .class_ 470), (0, u "java/util/Collections$SetFromMap"), (2, .class_ 474), (0, u "java/util/Collections$SequencedSetFromMap"), (3, .class_ 479), (0, u "java/util/Collections$AsLIFOQueue"), (11, .class_ 492), (0, u "java/util/Collections$EmptySet"), (1, .class_ 495), (0, u "java/util/Collections$EmptyList"), (1, .class_ 498), (0, u "java/util/Collections$EmptyMap"), (1, u "BINARYSEARCH_THRESHOLD"), (0, u "I"), (2, u "REVERSE_THRESHOLD"), (1, u "SHUFFLE_THRESHOLD"), (1, u "FILL_THRESHOLD"), (1, u "ROTATE_THRESHOLD"), (1, u "COPY_THRESHOLD"), (1, u "REPLACEALL_THRESHOLD"), (1, u "INDEXOFSUBLIST_THRESHOLD"), (333, .class_ 851), (0, u "java/util/Collections$CheckedMap$CheckedEntrySet"), (0, .class_ 853), (0, u "java/util/Collections$CheckedMap$CheckedEntrySet$CheckedEntry"), (0, .class_ 855), (0, u "java/util/Collections$CheckedMap$CheckedEntrySet$1"), (0, .class_ 857), (0, u "java/util/Collections$CheckedList$1"), (0, .class_ 859), (0, u "java/util/Collections$CheckedCollection$1"), (0, .class_ 861), (0, u "java/util/Collections$UnmodifiableNavigableMap$EmptyNavigableMap"), (0, .class_ 863), (0, u "java/util/Collections$UnmodifiableMap$UnmodifiableEntrySet"), (0, .class_ 865), (0, u "java/util/Collections$UnmodifiableMap$UnmodifiableEntrySet$UnmodifiableEntry"), (0, .class_ 867), (0, u "java/util/Collections$UnmodifiableMap$UnmodifiableEntrySet$UnmodifiableEntrySetSpliterator"), (0, .class_ 869), (0, u "java/util/Collections$UnmodifiableMap$UnmodifiableEntrySet$1"), (0, .class_ 871), (0, u "java/util/Collections$UnmodifiableList$1"), (0, .class_ 873), (0, u "java/util/Collections$UnmodifiableNavigableSet$EmptyNavigableSet"), (0, .class_ 875), (0, u "java/util/Collections$UnmodifiableCollection$1")] 57

def k14m0 : Method := { name := "<init>", desc := "()V", sig := { parameters := [], returnType := none }, accessFlags := 2, code := none }
/-- java/util/Collections -/
def k14 : Class := { plain "java/util/Collections" (some 0) with
  accessFlags := 33
  interfaces := #[]
  cf := some (fileOf pool14 19 #[.nestMembers #[478, 473, 469, 434, 423, 417, 393, 390, 380, 497, 494, 491, 355, 350, 344, 338, 333, 328, 850, 852, 854, 320, 325, 856, 315, 310, 305, 300, 287, 858, 284, 281, 278, 268, 271, 265, 262, 256, 250, 245, 860, 237, 231, 223, 862, 864, 866, 868, 215, 212, 870, 206, 872, 198, 190, 182, 174, 166, 874, 442, 387, 384]] #[{ accessFlags := 2, nameIndex := 5, descriptorIndex := 6, attributes := #[] }] 33 2 #[] #[{ accessFlags := 26, nameIndex := 500, descriptorIndex := 501, attributes := #[] }, { accessFlags := 26, nameIndex := 504, descriptorIndex := 501, attributes := #[] }, { accessFlags := 26, nameIndex := 506, descriptorIndex := 501, attributes := #[] }, { accessFlags := 26, nameIndex := 508, descriptorIndex := 501, attributes := #[] }, { accessFlags := 26, nameIndex := 510, descriptorIndex := 501, attributes := #[] }, { accessFlags := 26, nameIndex := 512, descriptorIndex := 501, attributes := #[] }, { accessFlags := 26, nameIndex := 514, descriptorIndex := 501, attributes := #[] }, { accessFlags := 26, nameIndex := 516, descriptorIndex := 501, attributes := #[] }, { accessFlags := 10, nameIndex := 84, descriptorIndex := 85, attributes := #[] }, { accessFlags := 25, nameIndex := 362, descriptorIndex := 363, attributes := #[] }, { accessFlags := 25, nameIndex := 370, descriptorIndex := 371, attributes := #[] }, { accessFlags := 25, nameIndex := 374, descriptorIndex := 375, attributes := #[] }])
  fields := #[{ name := "BINARYSEARCH_THRESHOLD", type := .int, accessFlags := 26, slot := 0, constantValue := 0 }, { name := "REVERSE_THRESHOLD", type := .int, accessFlags := 26, slot := 1, constantValue := 0 }, { name := "SHUFFLE_THRESHOLD", type := .int, accessFlags := 26, slot := 2, constantValue := 0 }, { name := "FILL_THRESHOLD", type := .int, accessFlags := 26, slot := 3, constantValue := 0 }, { name := "ROTATE_THRESHOLD", type := .int, accessFlags := 26, slot := 4, constantValue := 0 }, { name := "COPY_THRESHOLD", type := .int, accessFlags := 26, slot := 5, constantValue := 0 }, { name := "REPLACEALL_THRESHOLD", type := .int, accessFlags := 26, slot := 6, constantValue := 0 }, { name := "INDEXOFSUBLIST_THRESHOLD", type := .int, accessFlags := 26, slot := 7, constantValue := 0 }, { name := "r", type := (.object "java/util/Random"), accessFlags := 10, slot := 8, constantValue := 0 }, { name := "EMPTY_SET", type := (.object "java/util/Set"), accessFlags := 25, slot := 9, constantValue := 0 }, { name := "EMPTY_LIST", type := (.object "java/util/List"), accessFlags := 25, slot := 10, constantValue := 0 }, { name := "EMPTY_MAP", type := (.object "java/util/Map"), accessFlags := 25, slot := 11, constantValue := 0 }]
  methods := #[k14m0]
  instanceTypes := #[]
  staticTypes := #[.int, .int, .int, .int, .int, .int, .int, .int, (.object "java/util/Random"), (.object "java/util/Set"), (.object "java/util/List"), (.object "java/util/Map")]
  resolved := Array.replicate 933 none
  statics := some 2 }

def pool15 : Array CpInfo := pool [(2, .class_ 4), (1, u "java/lang/Object"), (0, u "<init>"), (0, u "()V"), (17, .class_ 26), (1, u "jdk/internal/util/Preconditions"), (28, .class_ 56), (0, u "jdk/internal/util/Preconditions$4"), (57, .class_ 115), (0, u "jdk/internal/util/Preconditions$1"), (7, u "SIOOBE_FORMATTER"), (0, u "Ljava/util/function/BiFunction;"), (0, .class_ 126), (0, u "jdk/internal/util/Preconditions$2"), (3, u "AIOOBE_FORMATTER"), (0, .class_ 132), (0, u "jdk/internal/util/Preconditions$3"), (3, u "IOOBE_FORMATTER")] 57

def k15m0 : Method := { name := "<init>", desc := "()V", sig := { parameters := [], returnType := none }, accessFlags := 1, code := none }
/-- jdk/internal/util/Preconditions -/
def k15 : Class := { plain "jdk/internal/util/Preconditions" (some 0) with
  accessFlags := 33
  interfaces := #[]
  cf := some (fileOf pool15 24 #[.nestMembers #[55, 131, 125, 114]] #[{ accessFlags := 1, nameIndex := 5, descriptorIndex := 6, attributes := #[] }] 33 2 #[] #[{ accessFlags := 25, nameIndex := 123, descriptorIndex := 124, attributes := #[] }, { accessFlags := 25, nameIndex := 130, descriptorIndex := 124, attributes := #[] }, { accessFlags := 25, nameIndex := 136, descriptorIndex := 124, attributes := #[] }])
  fields := #[{ name := "SIOOBE_FORMATTER", type := (.object "java/util/function/BiFunction"), accessFlags := 25, slot := 0, constantValue := 0 }, { name := "AIOOBE_FORMATTER", type := (.object "java/util/function/BiFunction"), accessFlags := 25, slot := 1, constantValue := 0 }, { name := "IOOBE_FORMATTER", type := (.object "java/util/function/BiFunction"), accessFlags := 25, slot := 2, constantValue := 0 }]
  methods := #[k15m0]
  instanceTypes := #[]
  staticTypes := #[(.object "java/util/function/BiFunction"), (.object "java/util/function/BiFunction"), (.object "java/util/function/BiFunction")]
  resolved := Array.replicate 194 none
  statics := some 3 }

def pool16 : Array CpInfo := pool [(9, u "<init>"), (6, .class_ 18), (1, u "java/lang/Object"), (0, u "()V"), (1, .class_ 23), (1, u "jdk/internal/util/ArraysSupport"), (0, u "LOG2_ARRAY_LONG_INDEX_SCALE"), (0, u "I"), (2, u "U"), (0, u "Ljdk/internal/misc/Unsafe;"), (8, u "BIG_ENDIAN"), (0, u "Z"), (8, u "LOG2_BYTE_BIT_SIZE"), (4, u "LOG2_ARRAY_INT_INDEX_SCALE"), (54, u "JLA"), (0, u "Ljdk/internal/access/JavaLangAccess;"), (11, u "LOG2_ARRAY_BOOLEAN_INDEX_SCALE"), (9, u "LOG2_ARRAY_BYTE_INDEX_SCALE"), (5, u "LOG2_ARRAY_CHAR_INDEX_SCALE"), (5, u "LOG2_ARRAY_SHORT_INDEX_SCALE"), (18, u "LOG2_ARRAY_FLOAT_INDEX_SCALE"), (24, u "LOG2_ARRAY_DOUBLE_INDEX_SCALE"), (89, u "T_BOOLEAN"), (2, u "T_CHAR"), (1, u "T_FLOAT"), (1, u "T_DOUBLE"), (1, u "T_BYTE"), (1, u "T_SHORT"), (1, u "T_INT"), (1, u "T_LONG"), (1, u "SOFT_MAX_ARRAY_LENGTH")] 83

def k16m0 : Method := { name := "<init>", desc := "()V", sig := { parameters := [], returnType := none }, accessFlags := 2, code := none }
/-- jdk/internal/util/ArraysSupport -/
def k16 : Class := { plain "jdk/internal/util/ArraysSupport" (some 0) with
  accessFlags := 33
  interfaces := #[]
  cf := some (fileOf pool16 21 #[] #[{ accessFlags := 2, nameIndex := 9, descriptorIndex := 19, attributes := #[] }] 33 16 #[] #[{ accessFlags := 24, nameIndex := 28, descriptorIndex := 29, attributes := #[] }, { accessFlags := 26, nameIndex := 38, descriptorIndex := 39, attributes := #[] }, { accessFlags := 25, nameIndex := 121, descriptorIndex := 25, attributes := #[] }, { accessFlags := 25, nameIndex := 131, descriptorIndex := 25, attributes := #[] }, { accessFlags := 25, nameIndex := 137, descriptorIndex := 25, attributes := #[] }, { accessFlags := 25, nameIndex := 143, descriptorIndex := 25, attributes := #[] }, { accessFlags := 25, nameIndex := 53, descriptorIndex := 25, attributes := #[] }, { accessFlags := 25, nameIndex := 24, descriptorIndex := 25, attributes := #[] }, { accessFlags := 25, nameIndex := 162, descriptorIndex := 25, attributes := #[] }, { accessFlags := 25, nameIndex := 187, descriptorIndex := 25, attributes := #[] }, { accessFlags := 26, nameIndex := 48, descriptorIndex := 25, attributes := #[] }, { accessFlags := 25, nameIndex := 277, descriptorIndex := 25, attributes := #[] }, { accessFlags := 25, nameIndex := 280, descriptorIndex := 25, attributes := #[] }, { accessFlags := 25, nameIndex := 282, descriptorIndex := 25, attributes := #[] }, { accessFlags := 25, nameIndex := 284, descriptorIndex := 25, attributes := #[] }, { accessFlags := 25, nameIndex := 286, descriptorIndex := 25, attributes := #[] }, { accessFlags := 25, nameIndex := 288, descriptorIndex := 25, attributes := #[] }, { accessFlags := 25, nameIndex := 290, descriptorIndex := 25, attributes := #[] }, { accessFlags := 25, nameIndex := 292, descriptorIndex := 25, attributes := #[] }, { accessFlags := 26, nameIndex := 108, descriptorIndex := 109, attributes := #[] }, { accessFlags := 25, nameIndex := 294, descriptorIndex := 25, attributes := #[] }])
  fields := #[{ name := "U", type := (.object "jdk/internal/misc/Unsafe"), accessFlags := 24, slot := 0, constantValue := 0 }, { name := "BIG_ENDIAN", type := .boolean, accessFlags := 26, slot := 1, constantValue := 0 }, { name := "LOG2_ARRAY_BOOLEAN_INDEX_SCALE", type := .int, accessFlags := 25, slot := 2, constantValue := 0 }, { name := "LOG2_ARRAY_BYTE_INDEX_SCALE", type := .int, accessFlags := 25, slot := 3, constantValue := 0 }, { name := "LOG2_ARRAY_CHAR_INDEX_SCALE", type := .int, accessFlags := 25, slot := 4, constantValue := 0 }, { name := "LOG2_ARRAY_SHORT_INDEX_SCALE", type := .int, accessFlags := 25, slot := 5, constantValue := 0 }, { name := "LOG2_ARRAY_INT_INDEX_SCALE", type := .int, accessFlags := 25, slot := 6, constantValue := 0 }, { name := "LOG2_ARRAY_LONG_INDEX_SCALE", type := .int, accessFlags := 25, slot := 7, constantValue := 0 }, { name := "LOG2_ARRAY_FLOAT_INDEX_SCALE", type := .int, accessFlags := 25, slot := 8, constantValue := 0 }, { name := "LOG2_ARRAY_DOUBLE_INDEX_SCALE", type := .int, accessFlags := 25, slot := 9, constantValue := 0 }, { name := "LOG2_BYTE_BIT_SIZE", type := .int, accessFlags := 26, slot := 10, constantValue := 0 }, { name := "T_BOOLEAN", type := .int, accessFlags := 25, slot := 11, constantValue := 0 }, { name := "T_CHAR", type := .int, accessFlags := 25, slot := 12, constantValue := 0 }, { name := "T_FLOAT", type := .int, accessFlags := 25, slot := 13, constantValue := 0 }, { name := "T_DOUBLE", type := .int, accessFlags := 25, slot := 14, constantValue := 0 }, { name := "T_BYTE", type := .int, accessFlags := 25, slot := 15, constantValue := 0 }, { name := "T_SHORT", type := .int, accessFlags := 25, slot := 16, constantValue := 0 }, { name := "T_INT", type := .int, accessFlags := 25, slot := 17, constantValue := 0 }, { name := "T_LONG", type := .int, accessFlags := 25, slot := 18, constantValue := 0 }, { name := "JLA", type := (.object "jdk/internal/access/JavaLangAccess"), accessFlags := 26, slot := 19, constantValue := 0 }, { name := "SOFT_MAX_ARRAY_LENGTH", type := .int, accessFlags := 25, slot := 20, constantValue := 0 }]
  methods := #[k16m0]
  instanceTypes := #[]
  staticTypes := #[(.object "jdk/internal/misc/Unsafe"), .boolean, .int, .int, .int, .int, .int, .int, .int, .int, .int, .int, .int, .int, .int, .int, .int, .int, .int, (.object "jdk/internal/access/JavaLangAccess"), .int]
  resolved := Array.replicate 378 none
  statics := none }

def pool17 : Array CpInfo := pool [(8, .class_ 10), (1, u "java/lang/Iterable"), (24, .class_ 36), (0, u "java/lang/Object")] 25

/-- java/lang/Iterable -/
def k17 : Class := { plain "java/lang/Iterable" (some 0) with
  accessFlags := 1537
  interfaces := #[]
  cf := some (fileOf pool17 8 #[] #[] 1537 35 #[] #[])
  fields := #[]
  methods := #[]
  instanceTypes := #[]
  staticTypes := #[]
  resolved := Array.replicate 62 none
  statics := none }

def pool18 : Array CpInfo := pool [(10, .class_ 12), (1, u "java/util/Collection"), (47, .class_ 61), (0, u "java/lang/Object"), (0, .class_ 63), (0, u "java/lang/Iterable")] 51

/-- java/util/Collection -/
def k18 : Class := { plain "java/util/Collection" (some 0) with
  accessFlags := 1537
  interfaces := #[17]
  cf := some (fileOf pool18 10 #[] #[] 1537 60 #[62] #[])
  fields := #[]
  methods := #[]
  instanceTypes := #[]
  staticTypes := #[]
  resolved := Array.replicate 115 none
  statics := none }

def pool19 : Array CpInfo := pool [(2, .class_ 4), (1, u "java/lang/Object"), (0, u "<init>"), (0, u "()V"), (1, .class_ 10), (1, u "java/util/AbstractCollection"), (66, .class_ 78), (0, u "java/util/Collection")] 81

def k19m0 : Method := { name := "<init>", desc := "()V", sig := { parameters := [], returnType := none }, accessFlags := 4, code := none }
/-- java/util/AbstractCollection -/
def k19 : Class := { plain "java/util/AbstractCollection" (some 0) with
  accessFlags := 1057
  interfaces := #[18]
  cf := some (fileOf pool19 8 #[] #[{ accessFlags := 4, nameIndex := 5, descriptorIndex := 6, attributes := #[] }] 1057 2 #[77] #[])
  fields := #[]
  methods := #[k19m0]
  instanceTypes := #[]
  staticTypes := #[]
  resolved := Array.replicate 160 none
  statics := none }

def pool20 : Array CpInfo := pool [(8, .class_ 10), (1, u "java/util/SequencedCollection"), (15, .class_ 27), (0, u "java/lang/Object"), (0, .class_ 29), (0, u "java/util/Collection")] 27

/-- java/util/SequencedCollection -/
def k20 : Class := { plain "java/util/SequencedCollection" (some 0) with
  accessFlags := 1537
  interfaces := #[18]
  cf := some (fileOf pool20 8 #[] #[] 1537 26 #[28] #[])
  fields := #[]
  methods := #[]
  instanceTypes := #[]
  staticTypes := #[]
  resolved := Array.replicate 57 none
  statics := none }

def pool21 : Array CpInfo := pool [(8, .class_ 10), (1, u "java/util/List"), (92, .class_ 104), (0, u "java/lang/Object"), (15, .class_ 121), (0, u "java/util/SequencedCollection")] 129

/-- java/util/List -/
def k21 : Class := { plain "java/util/List" (some 0) with
  accessFlags := 1537
  interfaces := #[20]
  cf := some (fileOf pool21 8 #[] #[] 1537 103 #[120] #[])
  fields := #[]
  methods := #[]
  instanceTypes := #[]
  staticTypes := #[]
  resolved := Array.replicate 251 none
  statics := none }

def pool22 : Array CpInfo := pool [(2, .class_ 4), (1, u "java/util/AbstractCollection"), (0, u "<init>"), (0, u "()V"), (1, .class_ 10), (1, u "java/util/AbstractList"), (0, u "modCount"), (0, u "I"), (64, .class_ 78), (0, u "java/util/AbstractList$Itr"), (3, .class_ 83), (0, u "java/util/AbstractList$ListItr"), (9, .class_ 94), (0, u "java/util/AbstractList$RandomAccessSubList"), (3, .class_ 99), (0, u "java/util/AbstractList$SubList"), (33, .class_ 134), (0, u "java/util/List"), (73, .class_ 209), (0, u "java/util/AbstractList$SubList$1"), (0, .class_ 211), (0, u "java/util/AbstractList$RandomAccessSpliterator")] 6

def k22m0 : Method := { name := "<init>", desc := "()V", sig := { parameters := [], returnType := none }, accessFlags := 4, code := none }
/-- java/util/AbstractList -/
def k22 : Class := { plain "java/util/AbstractList" (some 19) with
  accessFlags := 1057
  interfaces := #[21]
  cf := some (fileOf pool22 8 #[.nestMembers #[93, 98, 208, 210, 82, 77]] #[{ accessFlags := 4, nameIndex := 5, descriptorIndex := 6, attributes := #[] }] 1057 2 #[133] #[{ accessFlags := 132, nameIndex := 11, descriptorIndex := 12, attributes := #[] }])
  fields := #[{ name := "modCount", type := .int, accessFlags := 132, slot := 0, constantValue := 0 }]
  methods := #[k22m0]
  instanceTypes := #[.int]
  staticTypes := #[]
  resolved := Array.replicate 218 none
  statics := none }

def pool23 : Array CpInfo := pool [(1, .class_ 2), (0, u "java/util/RandomAccess"), (0, .class_ 4), (0, u "java/lang/Object")] 2

/-- java/util/RandomAccess -/
def k23 : Class := { plain "java/util/RandomAccess" (some 0) with
  accessFlags := 1537
  interfaces := #[]
  cf := some (fileOf pool23 1 #[] #[] 1537 3 #[] #[])
  fields := #[]
  methods := #[]
  instanceTypes := #[]
  staticTypes := #[]
  resolved := Array.replicate 7 none
  statics := none }

def pool24 : Array CpInfo := pool [(2, .class_ 4), (1, u "java/util/AbstractList"), (0, u "<init>"), (0, u "()V"), (1, .class_ 10), (1, u "java/util/Collections"), (54, .class_ 66), (0, u "java/util/Collections$EmptyList"), (0, .class_ 68), (0, u "java/util/RandomAccess"), (0, .class_ 70), (0, u "java/io/Serializable"), (0, u "serialVersionUID"), (0, u "J")] 77

def k24m0 : Method := { name := "<init>", desc := "()V", sig := { parameters := [], returnType := none }, accessFlags := 2, code := none }
/-- java/util/Collections$EmptyList -/
def k24 : Class := { plain "java/util/Collections$EmptyList" (some 22) with
  accessFlags := 32
  interfaces := #[23, 2]
  cf := some (fileOf pool24 65 #[.nestHost 8] #[{ accessFlags := 2, nameIndex := 5, descriptorIndex := 6, attributes := #[] }] 32 2 #[67, 69] #[{ accessFlags := 26, nameIndex := 71, descriptorIndex := 72, attributes := #[] }])
  fields := #[{ name := "serialVersionUID", type := .long, accessFlags := 26, slot := 0, constantValue := 0 }]
  methods := #[k24m0]
  instanceTypes := #[.int]
  staticTypes := #[.long]
  resolved := Array.replicate 150 none
  statics := none }

def pool25 : Array CpInfo := pool [(2, .class_ 4), (1, u "java/lang/StackTraceElement"), (0, u "<init>"), (2, .class_ 10), (1, u "java/lang/Object"), (0, u "()V"), (2, u "format"), (0, u "B"), (2, u "classLoaderName"), (0, u "Ljava/lang/String;"), (2, u "moduleName"), (2, u "moduleVersion"), (12, u "declaringClass"), (4, u "methodName"), (2, u "fileName"), (2, u "lineNumber"), (0, u "I"), (65, u "declaringClassObject"), (0, u "Ljava/lang/Class;"), (33, .class_ 153), (1, u "java/lang/StackTraceElement$HashedModules"), (17, .class_ 172), (0, u "java/io/Serializable"), (0, u "NATIVE_METHOD"), (1, u "UNKNOWN_SOURCE"), (2, u "BUILTIN_CLASS_LOADER"), (1, u "JDK_NON_UPGRADEABLE_MODULE"), (1, u "serialVersionUID"), (0, u "J")] 51

def k25m0 : Method := { name := "<init>", desc := "()V", sig := { parameters := [], returnType := none }, accessFlags := 2, code := none }
/-- java/lang/StackTraceElement -/
def k25 : Class := { plain "java/lang/StackTraceElement" (some 0) with
  accessFlags := 49
  interfaces := #[2]
  cf := some (fileOf pool25 2 #[.nestMembers #[151]] #[{ accessFlags := 2, nameIndex := 5, descriptorIndex := 11, attributes := #[] }] 49 8 #[171] #[{ accessFlags := 26, nameIndex := 173, descriptorIndex := 19, attributes := #[] }, { accessFlags := 26, nameIndex := 175, descriptorIndex := 19, attributes := #[] }, { accessFlags := 130, nameIndex := 116, descriptorIndex := 117, attributes := #[] }, { accessFlags := 2, nameIndex := 18, descriptorIndex := 19, attributes := #[] }, { accessFlags := 2, nameIndex := 22, descriptorIndex := 19, attributes := #[] }, { accessFlags := 2, nameIndex := 25, descriptorIndex := 19, attributes := #[] }, { accessFlags := 2, nameIndex := 38, descriptorIndex := 19, attributes := #[] }, { accessFlags := 2, nameIndex := 43, descriptorIndex := 19, attributes := #[] }, { accessFlags := 2, nameIndex := 46, descriptorIndex := 19, attributes := #[] }, { accessFlags := 2, nameIndex := 49, descriptorIndex := 50, attributes := #[] }, { accessFlags := 2, nameIndex := 14, descriptorIndex := 15, attributes := #[] }, { accessFlags := 26, nameIndex := 178, descriptorIndex := 15, attributes := #[] }, { accessFlags := 26, nameIndex := 180, descriptorIndex := 15, attributes := #[] }, { accessFlags := 26, nameIndex := 182, descriptorIndex := 183, attributes := #[] }])
  fields := #[{ name := "NATIVE_METHOD", type := (.object "java/lang/String"), accessFlags := 26, slot := 0, constantValue := 0 }, { name := "UNKNOWN_SOURCE", type := (.object "java/lang/String"), accessFlags := 26, slot := 1, constantValue := 0 }, { name := "declaringClassObject", type := (.object "java/lang/Class"), accessFlags := 130, slot := 0, constantValue := 0 }, { name := "classLoaderName", type := (.object "java/lang/String"), accessFlags := 2, slot := 1, constantValue := 0 }, { name := "moduleName", type := (.object "java/lang/String"), accessFlags := 2, slot := 2, constantValue := 0 }, { name := "moduleVersion", type := (.object "java/lang/String"), accessFlags := 2, slot := 3, constantValue := 0 }, { name := "declaringClass", type := (.object "java/lang/String"), accessFlags := 2, slot := 4, constantValue := 0 }, { name := "methodName", type := (.object "java/lang/String"), accessFlags := 2, slot := 5, constantValue := 0 }, { name := "fileName", type := (.object "java/lang/String"), accessFlags := 2, slot := 6, constantValue := 0 }, { name := "lineNumber", type := .int, accessFlags := 2, slot := 7, constantValue := 0 }, { name := "format", type := .byte, accessFlags := 2, slot := 8, constantValue := 0 }, { name := "BUILTIN_CLASS_LOADER", type := .byte, accessFlags := 26, slot := 2, constantValue := 0 }, { name := "JDK_NON_UPGRADEABLE_MODULE", type := .byte, accessFlags := 26, slot := 3, constantValue := 0 }, { name := "serialVersionUID", type := .long, accessFlags := 26, slot := 4, constantValue := 0 }]
  methods := #[k25m0]
  instanceTypes := #[(.object "java/lang/Class"), (.object "java/lang/String"), (.object "java/lang/String"), (.object "java/lang/String"), (.object "java/lang/String"), (.object "java/lang/String"), (.object "java/lang/String"), .int, .byte]
  staticTypes := #[(.object "java/lang/String"), (.object "java/lang/String"), .byte, .byte, .long]
  resolved := Array.replicate 235 none
  statics := none }

def pool26 : Array CpInfo := pool [(1, u "java/lang/Cloneable"), (0, .class_ 1), (0, u "java/lang/Object"), (0, .class_ 3)] 3

/-- java/lang/Cloneable -/
def k26 : Class := { plain "java/lang/Cloneable" (some 0) with
  accessFlags := 1537
  interfaces := #[]
  cf := some (fileOf pool26 2 #[] #[] 1537 4 #[] #[])
  fields := #[]
  methods := #[]
  instanceTypes := #[]
  staticTypes := #[]
  resolved := Array.replicate 8 none
  statics := none }

/-- the primitive byte -/
def k27 : Class := { plain "byte" none with kind := .primitive 'B', accessFlags := 0x411 }
/-- [B -/
def k28 : Class := { plain "[B" (some 0) with kind := .array 27 .byte, interfaces := #[26, 2], accessFlags := 1041 }

/-- the primitive char -/
def k29 : Class := { plain "char" none with kind := .primitive 'C', accessFlags := 0x411 }
/-- [C -/
def k30 : Class := { plain "[C" (some 0) with kind := .array 29 .char, interfaces := #[26, 2], accessFlags := 1041 }

/-- the primitive int -/
def k31 : Class := { plain "int" none with kind := .primitive 'I', accessFlags := 0x411 }
/-- [I -/
def k32 : Class := { plain "[I" (some 0) with kind := .array 31 .int, interfaces := #[26, 2], accessFlags := 1041 }

/-- [Ljava/lang/Object; -/
def k33 : Class := { plain "[Ljava/lang/Object;" (some 0) with kind := .array 0 (.object "java/lang/Object"), interfaces := #[26, 2], accessFlags := 1041 }

/-- [Ljava/lang/StackTraceElement; -/
def k34 : Class := { plain "[Ljava/lang/StackTraceElement;" (some 0) with kind := .array 25 (.object "java/lang/StackTraceElement"), interfaces := #[26, 2], accessFlags := 1041 }

/-- [Ljava/lang/Throwable; -/
def k35 : Class := { plain "[Ljava/lang/Throwable;" (some 0) with kind := .array 8 (.object "java/lang/Throwable"), interfaces := #[26, 2], accessFlags := 1041 }

def heap : Heap := #[{ cls := 7, slots := #[.long 0, .int 1, .null, .int 0, .null, .int 0, .int 0], vm := .statics 7 },
  { cls := 8, slots := #[.long 0, .ref 4, .ref 5, .null, .null, .null, .null, .ref 6, .int 1], vm := .statics 8 },
  { cls := 14, slots := #[.int 0, .int 0, .int 0, .int 0, .int 0, .int 0, .int 0, .int 0, .null, .null, .ref 5, .null], vm := .statics 14 },
  { cls := 15, slots := #[.null, .null, .null], vm := .statics 15 },
  { cls := 34, slots := #[], vm := .none },
  { cls := 24, slots := #[.int 0], vm := .none },
  { cls := 35, slots := #[], vm := .none }]
def classes : Array Class := #[k0, k1, k2, k3, k4, k5, k6, k7, k8, k9, k10, k11, k12, k13, k14, k15, k16, k17, k18, k19, k20, k21, k22, k23, k24, k25, k26, k27, k28, k29, k30, k31, k32, k33, k34, k35]
def interned : List (Array UInt16 × Addr) := []
def slotsUsed : Nat := 32
def theMethod : MethodId := ⟨1, 2⟩
def args0 : Array Value := #[.int 0, .int 65, .int 66, .int 67]
def aboutOver (below : List Frame) : State where
  vm := { classes := classes, interned := interned.toArray }
  heap := heap
  slotsUsed := slotsUsed
  threads := #[{ frames := .invoking theMethod args0 :: below }]
def below0 : List Frame := [.native { method := ⟨0, 0⟩, args := #[] }]
def about1 : State := aboutOver below0
def p0 : Program := .bare "" "" ""
def e0 : Env := launch0.env 0 0 0
theorem w_frames : about1.frames = Frame.invoking theMethod args0 :: below0 := rfl
set_option maxRecDepth 65536 in
theorem w_args : argsFit about1.vm theMethod args0 = true := by decide +kernel
set_option maxRecDepth 65536 in
theorem w_heap : heapFits about1 = true := by decide +kernel
set_option maxRecDepth 65536 in
theorem w_runnable : about1.curStatus? = some .runnable := by decide +kernel
set_option maxRecDepth 65536 in
theorem w_alone : about1.alone = true := by decide +kernel
set_option maxRecDepth 65536 in
theorem w_named : about1.methodNamed? x = some theMethod := by decide +kernel
set_option maxRecDepth 65536 in
theorem w_hears : about1.hears theMethod below0 = true := by decide +kernel
set_option maxRecDepth 65536 in
theorem w_ripe : about1.ripe theMethod args0 below0 = true := by decide +kernel
theorem w_running : about1.status = .running := rfl
set_option maxRecDepth 65536 in
theorem w_room : about1.hasRoom e0.platform room_1 = true :=
  launch0.hasRoom_least _ room_1 (by decide +kernel) (by decide +kernel) (by decide +kernel) (by decide +kernel) (by decide +kernel) (by decide +kernel)
theorem allAtoms_all (ts : List Jvm.Cond) (a : Array Jvm.Value) (st : Jvm.State) : (allAtoms ts).before a st = ts.all (fun c => c.before a st) := by
  induction ts with
  | nil => rfl
  | cons c t ih =>
    show (Jvm.Cond.and c (allAtoms t)).before a st = _
    rw [Jvm.Cond.before_and, ih, List.all_cons]
def words1 : List Jvm.Cond := Jvm.Cond.code x code maxLocals ret :: tables_1
/-- a 'code' word, met by the world's own term for the bytes: nothing is compared byte by byte -/
theorem code_word {y : MethodName} {bytes : ByteArray} {mx : Nat} {rt : Option FieldType} {a : Array Value} {s : State} {m : MethodId} {meth : Method} {c : Code} (h1 : s.methodNamed? y = some m) (h2 : s.vm.method? m = some meth) (h3 : meth.code = some c) (h4 : c.code = bytes)
    (h5 : (c.maxLocals == mx && c.exceptionTable.isEmpty && decide (c.maxStack ≤ mostOperands) && decide (meth.sig.returnType = rt) && !meth.locks && decide (parseMethodDescriptor y.desc = some meth.sig)) = true) : (Jvm.Cond.code y bytes mx rt).before a s = true := by
  simp only [Bool.and_eq_true, beq_iff_eq, Bool.not_eq_true', decide_eq_true_eq] at h5
  obtain ⟨⟨⟨⟨⟨g1, g2⟩, g3⟩, g4⟩, g5⟩, g6⟩ := h5
  simp [Cond.before, Cond.holds, Cond.value, h1, h2, h3, h4, g1, g2, g3, g4, g5, g6]
def isCode : Jvm.Cond → Bool
  | .code _ _ _ _ => true
  | _ => false
theorem all_split {L : List Jvm.Cond} {P : Jvm.Cond → Bool} (h1 : L.all (fun c => isCode c || P c) = true) (h2 : ∀ c ∈ L.filter isCode, P c = true) : L.all P = true := by
  refine List.all_eq_true.mpr fun c hc => ?_
  have h := List.all_eq_true.mp h1 c hc
  rcases Bool.eq_false_or_eq_true (isCode c) with hi | hi
  · exact h2 c (List.mem_filter.mpr ⟨hc, hi⟩)
  · simpa [hi] using h
set_option maxRecDepth 65536 in
theorem w_c0 : (Jvm.Cond.code x code maxLocals ret).before args0 about1 = true := code_word (m := ⟨1, 2⟩) (meth := k1m2) (c := k1c2) (by decide +kernel) rfl rfl rfl (by decide +kernel)
set_option maxRecDepth 65536 in
theorem w_c1 : (Jvm.Cond.code ({ cls := "com/example/earnest_trail/earnesttrail/ApiExceptionBadRequestPinLaw", name := "drawMessage", desc := "(ICCC)Ljava/lang/String;" } : Jvm.MethodName) method_2_code (5 : Nat) (Option.some (Jvm.ClassFile.FieldType.object "java/lang/String"))).before args0 about1 = true := code_word (m := ⟨1, 1⟩) (meth := k1m1) (c := k1c1) (by decide +kernel) rfl rfl rfl (by decide +kernel)
set_option maxRecDepth 65536 in
theorem w_c2 : (Jvm.Cond.code ({ cls := "com/example/earnest_trail/earnesttrail/ApiException", name := "badRequest", desc := "(Ljava/lang/String;)Lcom/example/earnest_trail/earnesttrail/ApiException;" } : Jvm.MethodName) prog_2_method_2_code (1 : Nat) (Option.some (Jvm.ClassFile.FieldType.object "com/example/earnest_trail/earnesttrail/ApiException"))).before args0 about1 = true := code_word (m := ⟨11, 1⟩) (meth := k11m1) (c := k11c1) (by decide +kernel) rfl rfl rfl (by decide +kernel)
set_option maxRecDepth 65536 in
theorem w_c3 : (Jvm.Cond.code ({ cls := "com/example/earnest_trail/earnesttrail/ApiException", name := "<init>", desc := "(ILjava/lang/String;)V" } : Jvm.MethodName) prog_2_method_1_code (3 : Nat) (Option.none : Option Jvm.ClassFile.FieldType)).before args0 about1 = true := code_word (m := ⟨11, 0⟩) (meth := k11m0) (c := k11c0) (by decide +kernel) rfl rfl rfl (by decide +kernel)
set_option maxRecDepth 65536 in
theorem w_c4 : (Jvm.Cond.code ({ cls := "java/lang/RuntimeException", name := "<init>", desc := "(Ljava/lang/String;)V" } : Jvm.MethodName) jdk_58_method_2_code (2 : Nat) (Option.none : Option Jvm.ClassFile.FieldType)).before args0 about1 = true := code_word (m := ⟨10, 1⟩) (meth := k10m1) (c := k10c1) (by decide +kernel) rfl rfl rfl (by decide +kernel)
set_option maxRecDepth 65536 in
theorem w_c5 : (Jvm.Cond.code ({ cls := "java/lang/Exception", name := "<init>", desc := "(Ljava/lang/String;)V" } : Jvm.MethodName) jdk_59_method_2_code (2 : Nat) (Option.none : Option Jvm.ClassFile.FieldType)).before args0 about1 = true := code_word (m := ⟨9, 1⟩) (meth := k9m1) (c := k9c1) (by decide +kernel) rfl rfl rfl (by decide +kernel)
set_option maxRecDepth 65536 in
theorem w_c6 : (Jvm.Cond.code ({ cls := "java/lang/Throwable", name := "<init>", desc := "(Ljava/lang/String;)V" } : Jvm.MethodName) jdk_78_method_2_code (2 : Nat) (Option.none : Option Jvm.ClassFile.FieldType)).before args0 about1 = true := code_word (m := ⟨8, 1⟩) (meth := k8m1) (c := k8c1) (by decide +kernel) rfl rfl rfl (by decide +kernel)
set_option maxRecDepth 65536 in
theorem w_c7 : (Jvm.Cond.code ({ cls := "java/lang/Object", name := "<init>", desc := "()V" } : Jvm.MethodName) object_method_1_code (1 : Nat) (Option.none : Option Jvm.ClassFile.FieldType)).before args0 about1 = true := code_word (m := ⟨0, 0⟩) (meth := k0m0) (c := k0c0) (by decide +kernel) rfl rfl rfl (by decide +kernel)
set_option maxRecDepth 65536 in
theorem w_c8 : (Jvm.Cond.code ({ cls := "java/lang/Throwable", name := "<init>", desc := "()V" } : Jvm.MethodName) jdk_78_method_1_code (1 : Nat) (Option.none : Option Jvm.ClassFile.FieldType)).before args0 about1 = true := code_word (m := ⟨8, 0⟩) (meth := k8m0) (c := k8c0) (by decide +kernel) rfl rfl rfl (by decide +kernel)
set_option maxRecDepth 65536 in
theorem w_c9 : (Jvm.Cond.code ({ cls := "com/example/earnest_trail/earnesttrail/ApiException", name := "status", desc := "()I" } : Jvm.MethodName) prog_2_method_4_code (1 : Nat) (Option.some Jvm.ClassFile.FieldType.int)).before args0 about1 = true := code_word (m := ⟨11, 2⟩) (meth := k11m2) (c := k11c2) (by decide +kernel) rfl rfl rfl (by decide +kernel)
set_option maxRecDepth 65536 in
theorem w_c10 : (Jvm.Cond.code ({ cls := "java/lang/Throwable", name := "getMessage", desc := "()Ljava/lang/String;" } : Jvm.MethodName) jdk_78_method_6_code (1 : Nat) (Option.some (Jvm.ClassFile.FieldType.object "java/lang/String"))).before args0 about1 = true := code_word (m := ⟨8, 2⟩) (meth := k8m2) (c := k8c2) (by decide +kernel) rfl rfl rfl (by decide +kernel)
set_option maxRecDepth 65536 in
theorem w_c11 : (Jvm.Cond.code ({ cls := "java/lang/String", name := "<init>", desc := "([C)V" } : Jvm.MethodName) jdk_42_method_3_code (2 : Nat) (Option.none : Option Jvm.ClassFile.FieldType)).before args0 about1 = true := code_word (m := ⟨7, 1⟩) (meth := k7m1) (c := k7c1) (by decide +kernel) rfl rfl rfl (by decide +kernel)
set_option maxRecDepth 65536 in
theorem w_c12 : (Jvm.Cond.code ({ cls := "java/lang/String", name := "<init>", desc := "([CIILjava/lang/Void;)V" } : Jvm.MethodName) jdk_42_method_149_code (6 : Nat) (Option.none : Option Jvm.ClassFile.FieldType)).before args0 about1 = true := code_word (m := ⟨7, 3⟩) (meth := k7m3) (c := k7c3) (by decide +kernel) rfl rfl rfl (by decide +kernel)
set_option maxRecDepth 65536 in
theorem w_c13 : (Jvm.Cond.code ({ cls := "java/lang/StringUTF16", name := "compress", desc := "([CII)[B" } : Jvm.MethodName) jdk_52_method_16_code (6 : Nat) (Option.some (Jvm.ClassFile.FieldType.array Jvm.ClassFile.FieldType.byte))).before args0 about1 = true := code_word (m := ⟨12, 2⟩) (meth := k12m2) (c := k12c2) (by decide +kernel) rfl rfl rfl (by decide +kernel)
set_option maxRecDepth 65536 in
theorem w_c14 : (Jvm.Cond.code ({ cls := "java/lang/StringUTF16", name := "compress", desc := "([CI[BII)I" } : Jvm.MethodName) jdk_52_method_21_code (7 : Nat) (Option.some Jvm.ClassFile.FieldType.int)).before args0 about1 = true := code_word (m := ⟨12, 3⟩) (meth := k12m3) (c := k12c3) (by decide +kernel) rfl rfl rfl (by decide +kernel)
set_option maxRecDepth 65536 in
theorem w_c15 : (Jvm.Cond.code ({ cls := "java/lang/StringUTF16", name := "coderFromArrayLen", desc := "([BI)B" } : Jvm.MethodName) jdk_52_method_15_code (2 : Nat) (Option.some Jvm.ClassFile.FieldType.byte)).before args0 about1 = true := code_word (m := ⟨12, 1⟩) (meth := k12m1) (c := k12c1) (by decide +kernel) rfl rfl rfl (by decide +kernel)
set_option maxRecDepth 65536 in
theorem w_c16 : (Jvm.Cond.code ({ cls := "java/lang/String", name := "valueOf", desc := "(C)Ljava/lang/String;" } : Jvm.MethodName) jdk_42_method_139_code (1 : Nat) (Option.some (Jvm.ClassFile.FieldType.object "java/lang/String"))).before args0 about1 = true := code_word (m := ⟨7, 2⟩) (meth := k7m2) (c := k7c2) (by decide +kernel) rfl rfl rfl (by decide +kernel)
set_option maxRecDepth 65536 in
theorem w_c17 : (Jvm.Cond.code ({ cls := "java/lang/StringLatin1", name := "canEncode", desc := "(C)Z" } : Jvm.MethodName) jdk_43_method_3_code (1 : Nat) (Option.some Jvm.ClassFile.FieldType.boolean)).before args0 about1 = true := code_word (m := ⟨13, 1⟩) (meth := k13m1) (c := k13c1) (by decide +kernel) rfl rfl rfl (by decide +kernel)
set_option maxRecDepth 65536 in
theorem w_c18 : (Jvm.Cond.code ({ cls := "java/lang/StringLatin1", name := "toBytes", desc := "(C)[B" } : Jvm.MethodName) jdk_43_method_46_code (1 : Nat) (Option.some (Jvm.ClassFile.FieldType.array Jvm.ClassFile.FieldType.byte))).before args0 about1 = true := code_word (m := ⟨13, 2⟩) (meth := k13m2) (c := k13c2) (by decide +kernel) rfl rfl rfl (by decide +kernel)
set_option maxRecDepth 65536 in
theorem w_c19 : (Jvm.Cond.code ({ cls := "java/lang/String", name := "<init>", desc := "([BB)V" } : Jvm.MethodName) jdk_42_method_151_code (3 : Nat) (Option.none : Option Jvm.ClassFile.FieldType)).before args0 about1 = true := code_word (m := ⟨7, 4⟩) (meth := k7m4) (c := k7c4) (by decide +kernel) rfl rfl rfl (by decide +kernel)
def codes1 : List Jvm.Cond := [Jvm.Cond.code x code maxLocals ret, Jvm.Cond.code ({ cls := "com/example/earnest_trail/earnesttrail/ApiExceptionBadRequestPinLaw", name := "drawMessage", desc := "(ICCC)Ljava/lang/String;" } : Jvm.MethodName) method_2_code (5 : Nat) (Option.some (Jvm.ClassFile.FieldType.object "java/lang/String")), Jvm.Cond.code ({ cls := "com/example/earnest_trail/earnesttrail/ApiException", name := "badRequest", desc := "(Ljava/lang/String;)Lcom/example/earnest_trail/earnesttrail/ApiException;" } : Jvm.MethodName) prog_2_method_2_code (1 : Nat) (Option.some (Jvm.ClassFile.FieldType.object "com/example/earnest_trail/earnesttrail/ApiException")), Jvm.Cond.code ({ cls := "com/example/earnest_trail/earnesttrail/ApiException", name := "<init>", desc := "(ILjava/lang/String;)V" } : Jvm.MethodName) prog_2_method_1_code (3 : Nat) (Option.none : Option Jvm.ClassFile.FieldType), Jvm.Cond.code ({ cls := "java/lang/RuntimeException", name := "<init>", desc := "(Ljava/lang/String;)V" } : Jvm.MethodName) jdk_58_method_2_code (2 : Nat) (Option.none : Option Jvm.ClassFile.FieldType), Jvm.Cond.code ({ cls := "java/lang/Exception", name := "<init>", desc := "(Ljava/lang/String;)V" } : Jvm.MethodName) jdk_59_method_2_code (2 : Nat) (Option.none : Option Jvm.ClassFile.FieldType), Jvm.Cond.code ({ cls := "java/lang/Throwable", name := "<init>", desc := "(Ljava/lang/String;)V" } : Jvm.MethodName) jdk_78_method_2_code (2 : Nat) (Option.none : Option Jvm.ClassFile.FieldType), Jvm.Cond.code ({ cls := "java/lang/Object", name := "<init>", desc := "()V" } : Jvm.MethodName) object_method_1_code (1 : Nat) (Option.none : Option Jvm.ClassFile.FieldType), Jvm.Cond.code ({ cls := "java/lang/Throwable", name := "<init>", desc := "()V" } : Jvm.MethodName) jdk_78_method_1_code (1 : Nat) (Option.none : Option Jvm.ClassFile.FieldType), Jvm.Cond.code ({ cls := "com/example/earnest_trail/earnesttrail/ApiException", name := "status", desc := "()I" } : Jvm.MethodName) prog_2_method_4_code (1 : Nat) (Option.some Jvm.ClassFile.FieldType.int), Jvm.Cond.code ({ cls := "java/lang/Throwable", name := "getMessage", desc := "()Ljava/lang/String;" } : Jvm.MethodName) jdk_78_method_6_code (1 : Nat) (Option.some (Jvm.ClassFile.FieldType.object "java/lang/String")), Jvm.Cond.code ({ cls := "java/lang/String", name := "<init>", desc := "([C)V" } : Jvm.MethodName) jdk_42_method_3_code (2 : Nat) (Option.none : Option Jvm.ClassFile.FieldType), Jvm.Cond.code ({ cls := "java/lang/String", name := "<init>", desc := "([CIILjava/lang/Void;)V" } : Jvm.MethodName) jdk_42_method_149_code (6 : Nat) (Option.none : Option Jvm.ClassFile.FieldType), Jvm.Cond.code ({ cls := "java/lang/StringUTF16", name := "compress", desc := "([CII)[B" } : Jvm.MethodName) jdk_52_method_16_code (6 : Nat) (Option.some (Jvm.ClassFile.FieldType.array Jvm.ClassFile.FieldType.byte)), Jvm.Cond.code ({ cls := "java/lang/StringUTF16", name := "compress", desc := "([CI[BII)I" } : Jvm.MethodName) jdk_52_method_21_code (7 : Nat) (Option.some Jvm.ClassFile.FieldType.int), Jvm.Cond.code ({ cls := "java/lang/StringUTF16", name := "coderFromArrayLen", desc := "([BI)B" } : Jvm.MethodName) jdk_52_method_15_code (2 : Nat) (Option.some Jvm.ClassFile.FieldType.byte), Jvm.Cond.code ({ cls := "java/lang/String", name := "valueOf", desc := "(C)Ljava/lang/String;" } : Jvm.MethodName) jdk_42_method_139_code (1 : Nat) (Option.some (Jvm.ClassFile.FieldType.object "java/lang/String")), Jvm.Cond.code ({ cls := "java/lang/StringLatin1", name := "canEncode", desc := "(C)Z" } : Jvm.MethodName) jdk_43_method_3_code (1 : Nat) (Option.some Jvm.ClassFile.FieldType.boolean), Jvm.Cond.code ({ cls := "java/lang/StringLatin1", name := "toBytes", desc := "(C)[B" } : Jvm.MethodName) jdk_43_method_46_code (1 : Nat) (Option.some (Jvm.ClassFile.FieldType.array Jvm.ClassFile.FieldType.byte)), Jvm.Cond.code ({ cls := "java/lang/String", name := "<init>", desc := "([BB)V" } : Jvm.MethodName) jdk_42_method_151_code (3 : Nat) (Option.none : Option Jvm.ClassFile.FieldType)]
set_option maxRecDepth 65536 in
theorem codes_eq : words1.filter isCode = codes1 := rfl
theorem w_codes : ∀ c ∈ words1.filter isCode, c.before args0 about1 = true := by
  rw [codes_eq]
  intro c hc
  simp only [codes1, List.mem_cons, List.not_mem_nil, or_false] at hc
  rcases hc with rfl | rfl | rfl | rfl | rfl | rfl | rfl | rfl | rfl | rfl | rfl | rfl | rfl | rfl | rfl | rfl | rfl | rfl | rfl | rfl
  · exact w_c0
  · exact w_c1
  · exact w_c2
  · exact w_c3
  · exact w_c4
  · exact w_c5
  · exact w_c6
  · exact w_c7
  · exact w_c8
  · exact w_c9
  · exact w_c10
  · exact w_c11
  · exact w_c12
  · exact w_c13
  · exact w_c14
  · exact w_c15
  · exact w_c16
  · exact w_c17
  · exact w_c18
  · exact w_c19
set_option maxRecDepth 65536 in
theorem w_t1 : (words1.take 24).all (fun c => isCode c || c.before args0 about1) = true := by decide +kernel
set_option maxRecDepth 65536 in
theorem w_t2 : ((words1.drop 24).take 24).all (fun c => isCode c || c.before args0 about1) = true := by decide +kernel
set_option maxRecDepth 65536 in
theorem w_t3 : (((words1.drop 24).drop 24).take 24).all (fun c => isCode c || c.before args0 about1) = true := by decide +kernel
set_option maxRecDepth 65536 in
theorem w_t4 : ((((words1.drop 24).drop 24).drop 24).take 24).all (fun c => isCode c || c.before args0 about1) = true := by decide +kernel
set_option maxRecDepth 65536 in
theorem w_t5 : (((((words1.drop 24).drop 24).drop 24).drop 24).take 24).all (fun c => isCode c || c.before args0 about1) = true := by decide +kernel
set_option maxRecDepth 65536 in
theorem w_t6 : (((((words1.drop 24).drop 24).drop 24).drop 24).drop 24).all (fun c => isCode c || c.before args0 about1) = true := by decide +kernel
theorem w_tables : (allAtoms (Jvm.Cond.code x code maxLocals ret :: tables_1)).before args0 about1 = true := by
  rw [allAtoms_all]
  show words1.all (fun c => c.before args0 about1) = true
  refine all_split ?_ w_codes
  rw [← List.take_append_drop 24 words1, List.all_append, w_t1, ← List.take_append_drop 24 (words1.drop 24), List.all_append, w_t2, ← List.take_append_drop 24 ((words1.drop 24).drop 24), List.all_append, w_t3, ← List.take_append_drop 24 (((words1.drop 24).drop 24).drop 24), List.all_append, w_t4, ← List.take_append_drop 24 ((((words1.drop 24).drop 24).drop 24).drop 24), List.all_append, w_t5, w_t6]
  rfl
set_option maxRecDepth 65536 in
theorem w_rest : rest_1_c.before args0 about1 = true := by decide +kernel
set_option maxRecDepth 65536 in
theorem w_case : (Jvm.Cond.and given_1 narrow_1).before args0 about1 = true := by decide +kernel
theorem w_applies : (headSpec (Jvm.Cond.code x code maxLocals ret :: tables_1) room_1).applies x e0.platform about1 = true :=
  (Spec.applies_iff w_frames).mpr ⟨w_running, w_runnable, w_alone, w_named, w_hears, w_ripe, w_room, w_tables⟩
theorem atStart : AtStart classFile x code maxLocals ret World_1 tables_1 room_1 Calls_1 rest_1 Pre_1 launch0 p0 e0 about1 theMethod args0 below0 :=
  ⟨lists_1, trivial, launch0.admits_env _ _ _, launch0.least_env, fairChoices_fair.cas, fairChoices_fair.clock, w_frames, w_args, w_heap, w_applies, ⟨(by decide +kernel : framesKnown about1 = true), ⟨(by decide +kernel : tablesKnown about1 = true), trivial⟩⟩, w_rest, w_case⟩
end start1
theorem witness_1 : WitnessClaimed_1 := ⟨start1.p0, start1.e0, start1.about1, start1.theMethod, start1.args0, start1.below0, start1.atStart⟩
end Jvm.Pilot.@@N@@
