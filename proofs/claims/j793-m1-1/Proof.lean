import JvmDerived
import JvmDerived.Pilot.@@N@@Statement
import JvmDerived.Pilot.@@N@@Code
set_option linter.unusedVariables false
set_option linter.unusedSimpArgs false

namespace Jvm.OwnKit
open Sem ClassFile Op Lib Jvm.Stand Jvm.Free Jvm.LawKit Jvm.RoadKit
/-! ## What is owed from a state on, and where a walk stands: one bundle a walk -/
def Go (tb : Tables) (e : Env) (below : List Frame) (P : Outcome → State → Prop) (A : State) : Prop := ∃ s₂ o, Steps tb e below A s₂ ∧ s₂.status = .running ∧ Ended s₂ below o ∧ P o s₂
theorem Go.go {tb : Tables} {e : Env} {below : List Frame} {P : Outcome → State → Prop} {A B : State} (st : ∀ t, Steps tb e below B t → Steps tb e below A t) (k : Go tb e below P B) : Go tb e below P A := by
  obtain ⟨s2, o, h, r⟩ := k
  exact ⟨s2, o, st _ h, r⟩
theorem Go.cast {tb : Tables} {e : Env} {below : List Frame} {P : Outcome → State → Prop} {T : State} {g g' : JFrame} (q : g = g') (k : Go tb e below P (T.setTop g')) : Go tb e below P (T.setTop g) := q ▸ k
def QQ (h0 : Heap) (n0 : Nat) (ws : List Addr) (Po : Option Value → Heap → Prop) (v : Option Value) (h : Heap) (L : List Loc) : Prop := Fr n0 L ∧ Keep h0 h ws ∧ Po v h
def PO (s : State) (R : Room) (h0 : Heap) (n0 : Nat) (ws : List Addr) (Po : Option Value → Heap → Prop) (o : Outcome) (t : State) : Prop := ∃ v L, o = .returned v ∧ QQ h0 n0 ws Po v t.heap L ∧ FrameEnd s o t L R.cells R.slots
/-- a method's contract: from the heap h0, with the arguments as', it returns some v, writes nothing that is older than h0 but what lies in ws (and nothing below n0), and Po v h at its end -/
def Met (l : Launch) (y : MethodName) (bytes : ByteArray) (maxL : Nat) (ret : Option FieldType) (wl : List Cond) (rm : Room) (Z : State) (as' : Array Value) (h0 : Heap) (n0 : Nat) (ws : List Addr) (Po : Option Value → Heap → Prop) : Prop :=
  MetFree l y (head1 (Cond.code y bytes maxL ret :: wl) rm) (fun a U => a = as' ∧ Z.Warmed39 U.vm ∧ U.heap = h0) (fun _ _ _ _ _ => True) (fun _ U o U' => ∃ v L, o = .returned v ∧ QQ h0 n0 ws Po v U'.heap L ∧ FrameEnd U o U' L rm.cells rm.slots)
def Here (p : Program) (l : Launch) (e : Env) (R : Room) (s : State) (m : MethodId) (args : Array Value) (below : List Frame) (meth : Method) (c : Code) (Z : State) (bytes : ByteArray) (maxL : Nat) (ret : Option FieldType) (own nm : String) (h0 : Heap) (n0 : Nat) (ws : List Addr)
    (T : State) (h : Heap) (cells slots : Nat) : Prop :=
  ∃ locs, Stand p l e R s m args below meth c T locs cells slots ∧ Fr n0 locs ∧ T.heap = h ∧ Old Z n0 h ∧ Keep h0 h ws ∧ p.tables.exec = Jvm.exec ∧ c.code = bytes ∧ c.maxLocals = maxL ∧ meth.sig.returnType = ret ∧ meth.locks = false ∧ s.vm.findClass own = some m.cls ∧ meth.name = nm ∧ Z.Warmed39 s.vm
section Kit
variable {p : Program} {l : Launch} {e : Env} {R : Room} {s : State} {m : MethodId} {args : Array Value} {below : List Frame} {meth : Method} {c : Code} {Z : State} {bytes : ByteArray} {maxL : Nat} {ret : Option FieldType} {own nm : String} {h0 : Heap} {n0 : Nat} {ws : List Addr} {T : State} {h : Heap} {cells slots : Nat} {P : Outcome → State → Prop} {pc pc' : Nat} {Ls : Array Slot} {st rest : List Value} {a0 : Array Value}
theorem met_intro {y : MethodName} {wl : List Cond} {as' : Array Value} {Po : Option Value → Heap → Prop} (hpn : plainName own = true) (hc0 : y.cls = own) (hn0 : y.name = nm) (O : Old Z n0 h0)
    (body : ∀ p e s m below meth c s₁, Here p l e R s m as' below meth c Z bytes maxL ret own nm h0 n0 ws s₁ h0 0 0 → Go p.tables e below (PO s R h0 n0 ws Po) (s₁.setTop (entryFrame m as' maxL))) : Met l y bytes maxL ret wl R Z as' h0 n0 ws Po := by
  subst hc0 hn0
  refine MetFree.of_bodySF (plainFor_of_name hpn) hisR ?_
  intro p e s m args below meth c s₁ Bd hml0 hP hK
  obtain ⟨rfl, hZ, hh⟩ := hP
  have e0 : s₁.heap = h0 := by rw [← hh, Bd.state]; rfl
  exact body p e s m below meth c s₁ ⟨[], Stand.of_body Bd, Fr.nil n0, e0, O, Keep.refl h0 ws, Bd.exec, Bd.bytes, hml0, Bd.returns, BodyLoose.notSynchronized Bd, findClass_of_methodNamed Bd.named, (name_of_methodNamed Bd.named Bd.method).1, hZ⟩
theorem Here.old (X : Here p l e R s m args below meth c Z bytes maxL ret own nm h0 n0 ws T h cells slots) : Old Z n0 h := by obtain ⟨_, _, _, _, q, _⟩ := X; exact q
theorem Here.keep (X : Here p l e R s m args below meth c Z bytes maxL ret own nm h0 n0 ws T h cells slots) : Keep h0 h ws := by obtain ⟨_, _, _, _, _, q, _⟩ := X; exact q
theorem Here.zv (X : Here p l e R s m args below meth c Z bytes maxL ret own nm h0 n0 ws T h cells slots) : Z.Warmed39 s.vm := by obtain ⟨_, _, _, _, _, _, _, _, _, _, _, _, _, q⟩ := X; exact q
theorem Here.n0le (X : Here p l e R s m args below meth c Z bytes maxL ret own nm h0 n0 ws T h cells slots) : n0 ≤ h.size := by have q := X.old; rw [← q.1]; exact q.2.1
theorem Here.szle (X : Here p l e R s m args below meth c Z bytes maxL ret own nm h0 n0 ws T h cells slots) : h0.size ≤ h.size := X.keep.1
theorem o_iloadN {k : Fin 4} {v : Int32} (X : Here p l e R s m args below meth c Z bytes maxL ret own nm h0 n0 ws T h cells slots) (hd : decode bytes pc = .ok (.iload_n k, 1)) (hp : pc + 1 = pc') (hl : Ls[k.val]? = some (.val (.int v)))
    (k : Go p.tables e below P (T.setTop (mkF m pc' Ls (.int v :: st)))) : Go p.tables e below P (T.setTop (mkF m pc Ls st)) := by
  obtain ⟨locs, Y, N, eT, O, K, hx, hby, hml, hret, hlk, hown, hnm, hZ⟩ := X
  subst hp
  exact Go.go (fun t q => XS.iloadN Y.here hx rfl (hb hby hd) hl q) k
theorem o_iload {k : Nat} {v : Int32} (X : Here p l e R s m args below meth c Z bytes maxL ret own nm h0 n0 ws T h cells slots) (hd : decode bytes pc = .ok (.iload k, 2)) (hp : pc + 2 = pc') (hl : Ls[k]? = some (.val (.int v)))
    (k : Go p.tables e below P (T.setTop (mkF m pc' Ls (.int v :: st)))) : Go p.tables e below P (T.setTop (mkF m pc Ls st)) := by
  obtain ⟨locs, Y, N, eT, O, K, hx, hby, hml, hret, hlk, hown, hnm, hZ⟩ := X
  subst hp
  exact Go.go (fun t q => XS.iload Y.here hx rfl (hb hby hd) hl q) k
theorem o_lloadN {k : Fin 4} {v : Int64} (X : Here p l e R s m args below meth c Z bytes maxL ret own nm h0 n0 ws T h cells slots) (hd : decode bytes pc = .ok (.lload_n k, 1)) (hp : pc + 1 = pc') (hl : Ls[k.val]? = some (.val (.long v)))
    (k : Go p.tables e below P (T.setTop (mkF m pc' Ls (.long v :: st)))) : Go p.tables e below P (T.setTop (mkF m pc Ls st)) := by
  obtain ⟨locs, Y, N, eT, O, K, hx, hby, hml, hret, hlk, hown, hnm, hZ⟩ := X
  subst hp
  exact Go.go (fun t q => XS.lloadN Y.here hx rfl (hb hby hd) hl q) k
theorem o_lload {k : Nat} {v : Int64} (X : Here p l e R s m args below meth c Z bytes maxL ret own nm h0 n0 ws T h cells slots) (hd : decode bytes pc = .ok (.lload k, 2)) (hp : pc + 2 = pc') (hl : Ls[k]? = some (.val (.long v)))
    (k : Go p.tables e below P (T.setTop (mkF m pc' Ls (.long v :: st)))) : Go p.tables e below P (T.setTop (mkF m pc Ls st)) := by
  obtain ⟨locs, Y, N, eT, O, K, hx, hby, hml, hret, hlk, hown, hnm, hZ⟩ := X
  subst hp
  exact Go.go (fun t q => XS.lload Y.here hx rfl (hb hby hd) hl q) k
theorem o_aloadN {k : Fin 4} {v : Value} (X : Here p l e R s m args below meth c Z bytes maxL ret own nm h0 n0 ws T h cells slots) (hd : decode bytes pc = .ok (.aload_n k, 1)) (hp : pc + 1 = pc') (hl : Ls[k.val]? = some (.val v)) (hv : v.isRef = true)
    (k : Go p.tables e below P (T.setTop (mkF m pc' Ls (v :: st)))) : Go p.tables e below P (T.setTop (mkF m pc Ls st)) := by
  obtain ⟨locs, Y, N, eT, O, K, hx, hby, hml, hret, hlk, hown, hnm, hZ⟩ := X
  subst hp
  exact Go.go (fun t q => XS.aloadN Y.here hx rfl (hb hby hd) hl hv q) k
theorem o_aload {k : Nat} {v : Value} (X : Here p l e R s m args below meth c Z bytes maxL ret own nm h0 n0 ws T h cells slots) (hd : decode bytes pc = .ok (.aload k, 2)) (hp : pc + 2 = pc') (hl : Ls[k]? = some (.val v)) (hv : v.isRef = true)
    (k : Go p.tables e below P (T.setTop (mkF m pc' Ls (v :: st)))) : Go p.tables e below P (T.setTop (mkF m pc Ls st)) := by
  obtain ⟨locs, Y, N, eT, O, K, hx, hby, hml, hret, hlk, hown, hnm, hZ⟩ := X
  subst hp
  exact Go.go (fun t q => XS.aload Y.here hx rfl (hb hby hd) hl hv q) k
theorem o_istoreN {k : Fin 4} {x : Int32} {l' : Array Slot} (X : Here p l e R s m args below meth c Z bytes maxL ret own nm h0 n0 ws T h cells slots) (hd : decode bytes pc = .ok (.istore_n k, 1)) (hp : pc + 1 = pc') (hl : storeLocals Ls k.val (.int x) = some l')
    (k : Go p.tables e below P (T.setTop (mkF m pc' l' st))) : Go p.tables e below P (T.setTop (mkF m pc Ls (.int x :: st))) := by
  obtain ⟨locs, Y, N, eT, O, K, hx, hby, hml, hret, hlk, hown, hnm, hZ⟩ := X
  subst hp
  exact Go.go (fun t q => XS.istoreN Y.here hx rfl (hb hby hd) rfl hl q) k
theorem o_istore {k : Nat} {x : Int32} {l' : Array Slot} (X : Here p l e R s m args below meth c Z bytes maxL ret own nm h0 n0 ws T h cells slots) (hd : decode bytes pc = .ok (.istore k, 2)) (hp : pc + 2 = pc') (hl : storeLocals Ls k (.int x) = some l')
    (k : Go p.tables e below P (T.setTop (mkF m pc' l' st))) : Go p.tables e below P (T.setTop (mkF m pc Ls (.int x :: st))) := by
  obtain ⟨locs, Y, N, eT, O, K, hx, hby, hml, hret, hlk, hown, hnm, hZ⟩ := X
  subst hp
  exact Go.go (fun t q => XS.istore Y.here hx rfl (hb hby hd) rfl hl q) k
theorem o_lstoreN {k : Fin 4} {x : Int64} {l' : Array Slot} (X : Here p l e R s m args below meth c Z bytes maxL ret own nm h0 n0 ws T h cells slots) (hd : decode bytes pc = .ok (.lstore_n k, 1)) (hp : pc + 1 = pc') (hl : storeLocals Ls k.val (.long x) = some l')
    (k : Go p.tables e below P (T.setTop (mkF m pc' l' st))) : Go p.tables e below P (T.setTop (mkF m pc Ls (.long x :: st))) := by
  obtain ⟨locs, Y, N, eT, O, K, hx, hby, hml, hret, hlk, hown, hnm, hZ⟩ := X
  subst hp
  exact Go.go (fun t q => XS.lstoreN Y.here hx rfl (hb hby hd) rfl hl q) k
theorem o_lstore {k : Nat} {x : Int64} {l' : Array Slot} (X : Here p l e R s m args below meth c Z bytes maxL ret own nm h0 n0 ws T h cells slots) (hd : decode bytes pc = .ok (.lstore k, 2)) (hp : pc + 2 = pc') (hl : storeLocals Ls k (.long x) = some l')
    (k : Go p.tables e below P (T.setTop (mkF m pc' l' st))) : Go p.tables e below P (T.setTop (mkF m pc Ls (.long x :: st))) := by
  obtain ⟨locs, Y, N, eT, O, K, hx, hby, hml, hret, hlk, hown, hnm, hZ⟩ := X
  subst hp
  exact Go.go (fun t q => XS.lstore Y.here hx rfl (hb hby hd) rfl hl q) k
theorem o_astoreN {k : Fin 4} {v : Value} {l' : Array Slot} (X : Here p l e R s m args below meth c Z bytes maxL ret own nm h0 n0 ws T h cells slots) (hd : decode bytes pc = .ok (.astore_n k, 1)) (hp : pc + 1 = pc') (hv : v.isRef = true) (hl : storeLocals Ls k.val v = some l')
    (k : Go p.tables e below P (T.setTop (mkF m pc' l' st))) : Go p.tables e below P (T.setTop (mkF m pc Ls (v :: st))) := by
  obtain ⟨locs, Y, N, eT, O, K, hx, hby, hml, hret, hlk, hown, hnm, hZ⟩ := X
  subst hp
  exact Go.go (fun t q => XS.astoreN Y.here hx rfl (hb hby hd) rfl hv hl q) k
theorem o_astore {k : Nat} {v : Value} {l' : Array Slot} (X : Here p l e R s m args below meth c Z bytes maxL ret own nm h0 n0 ws T h cells slots) (hd : decode bytes pc = .ok (.astore k, 2)) (hp : pc + 2 = pc') (hv : v.isRef = true) (hl : storeLocals Ls k v = some l')
    (k : Go p.tables e below P (T.setTop (mkF m pc' l' st))) : Go p.tables e below P (T.setTop (mkF m pc Ls (v :: st))) := by
  obtain ⟨locs, Y, N, eT, O, K, hx, hby, hml, hret, hlk, hown, hnm, hZ⟩ := X
  subst hp
  exact Go.go (fun t q => XS.astore Y.here hx rfl (hb hby hd) rfl hv hl q) k
theorem o_iconst {i : Int} {v : Int32} (X : Here p l e R s m args below meth c Z bytes maxL ret own nm h0 n0 ws T h cells slots) (hd : decode bytes pc = .ok (.iconst i, 1)) (hp : pc + 1 = pc') (hv : Int32.ofInt i = v)
    (k : Go p.tables e below P (T.setTop (mkF m pc' Ls (.int v :: st)))) : Go p.tables e below P (T.setTop (mkF m pc Ls st)) := by
  obtain ⟨locs, Y, N, eT, O, K, hx, hby, hml, hret, hlk, hown, hnm, hZ⟩ := X
  subst hp hv
  exact Go.go (fun t q => XS.iconst Y.here hx rfl (hb hby hd) q) k
theorem o_bipush {i : Int} {v : Int32} (X : Here p l e R s m args below meth c Z bytes maxL ret own nm h0 n0 ws T h cells slots) (hd : decode bytes pc = .ok (.bipush i, 2)) (hp : pc + 2 = pc') (hv : (Int8.ofInt i).toInt32 = v)
    (k : Go p.tables e below P (T.setTop (mkF m pc' Ls (.int v :: st)))) : Go p.tables e below P (T.setTop (mkF m pc Ls st)) := by
  obtain ⟨locs, Y, N, eT, O, K, hx, hby, hml, hret, hlk, hown, hnm, hZ⟩ := X
  subst hp hv
  exact Go.go (fun t q => XS.bipush Y.here hx rfl (hb hby hd) q) k
theorem o_sipush {i : Int} {v : Int32} (X : Here p l e R s m args below meth c Z bytes maxL ret own nm h0 n0 ws T h cells slots) (hd : decode bytes pc = .ok (.sipush i, 3)) (hp : pc + 3 = pc') (hv : (Int16.ofInt i).toInt32 = v)
    (k : Go p.tables e below P (T.setTop (mkF m pc' Ls (.int v :: st)))) : Go p.tables e below P (T.setTop (mkF m pc Ls st)) := by
  obtain ⟨locs, Y, N, eT, O, K, hx, hby, hml, hret, hlk, hown, hnm, hZ⟩ := X
  subst hp hv
  exact Go.go (fun t q => XS.sipush Y.here hx rfl (hb hby hd) q) k
theorem o_lconst {i : Fin 2} {v : Int64} (X : Here p l e R s m args below meth c Z bytes maxL ret own nm h0 n0 ws T h cells slots) (hd : decode bytes pc = .ok (.lconst i, 1)) (hp : pc + 1 = pc') (hv : Int64.ofNat i = v)
    (k : Go p.tables e below P (T.setTop (mkF m pc' Ls (.long v :: st)))) : Go p.tables e below P (T.setTop (mkF m pc Ls st)) := by
  obtain ⟨locs, Y, N, eT, O, K, hx, hby, hml, hret, hlk, hown, hnm, hZ⟩ := X
  subst hp hv
  exact Go.go (fun t q => XS.lconst Y.here hx rfl (hb hby hd) q) k
theorem o_aconstNull  (X : Here p l e R s m args below meth c Z bytes maxL ret own nm h0 n0 ws T h cells slots) (hd : decode bytes pc = .ok (.aconst_null, 1)) (hp : pc + 1 = pc') 
    (k : Go p.tables e below P (T.setTop (mkF m pc' Ls (.null :: st)))) : Go p.tables e below P (T.setTop (mkF m pc Ls st)) := by
  obtain ⟨locs, Y, N, eT, O, K, hx, hby, hml, hret, hlk, hown, hnm, hZ⟩ := X
  subst hp
  exact Go.go (fun t q => XS.aconstNull Y.here hx rfl (hb hby hd)  q) k
theorem o_iadd {x y : Int32} {v : Int32} (X : Here p l e R s m args below meth c Z bytes maxL ret own nm h0 n0 ws T h cells slots) (hd : decode bytes pc = .ok (.iadd, 1)) (hp : pc + 1 = pc')  (hv : x + y = v)
    (k : Go p.tables e below P (T.setTop (mkF m pc' Ls (.int v :: st)))) : Go p.tables e below P (T.setTop (mkF m pc Ls (.int y :: .int x :: st))) := by
  obtain ⟨locs, Y, N, eT, O, K, hx, hby, hml, hret, hlk, hown, hnm, hZ⟩ := X
  subst hp hv
  exact Go.go (fun t q => XS.iadd Y.here hx rfl (hb hby hd) rfl q) k
theorem o_isub {x y : Int32} {v : Int32} (X : Here p l e R s m args below meth c Z bytes maxL ret own nm h0 n0 ws T h cells slots) (hd : decode bytes pc = .ok (.isub, 1)) (hp : pc + 1 = pc')  (hv : x - y = v)
    (k : Go p.tables e below P (T.setTop (mkF m pc' Ls (.int v :: st)))) : Go p.tables e below P (T.setTop (mkF m pc Ls (.int y :: .int x :: st))) := by
  obtain ⟨locs, Y, N, eT, O, K, hx, hby, hml, hret, hlk, hown, hnm, hZ⟩ := X
  subst hp hv
  exact Go.go (fun t q => XS.isub Y.here hx rfl (hb hby hd) rfl q) k
theorem o_imul {x y : Int32} {v : Int32} (X : Here p l e R s m args below meth c Z bytes maxL ret own nm h0 n0 ws T h cells slots) (hd : decode bytes pc = .ok (.imul, 1)) (hp : pc + 1 = pc')  (hv : x * y = v)
    (k : Go p.tables e below P (T.setTop (mkF m pc' Ls (.int v :: st)))) : Go p.tables e below P (T.setTop (mkF m pc Ls (.int y :: .int x :: st))) := by
  obtain ⟨locs, Y, N, eT, O, K, hx, hby, hml, hret, hlk, hown, hnm, hZ⟩ := X
  subst hp hv
  exact Go.go (fun t q => XS.imul Y.here hx rfl (hb hby hd) rfl q) k
theorem o_iand {x y : Int32} {v : Int32} (X : Here p l e R s m args below meth c Z bytes maxL ret own nm h0 n0 ws T h cells slots) (hd : decode bytes pc = .ok (.iand, 1)) (hp : pc + 1 = pc')  (hv : x &&& y = v)
    (k : Go p.tables e below P (T.setTop (mkF m pc' Ls (.int v :: st)))) : Go p.tables e below P (T.setTop (mkF m pc Ls (.int y :: .int x :: st))) := by
  obtain ⟨locs, Y, N, eT, O, K, hx, hby, hml, hret, hlk, hown, hnm, hZ⟩ := X
  subst hp hv
  exact Go.go (fun t q => XS.iand Y.here hx rfl (hb hby hd) rfl q) k
theorem o_ior {x y : Int32} {v : Int32} (X : Here p l e R s m args below meth c Z bytes maxL ret own nm h0 n0 ws T h cells slots) (hd : decode bytes pc = .ok (.ior, 1)) (hp : pc + 1 = pc')  (hv : x ||| y = v)
    (k : Go p.tables e below P (T.setTop (mkF m pc' Ls (.int v :: st)))) : Go p.tables e below P (T.setTop (mkF m pc Ls (.int y :: .int x :: st))) := by
  obtain ⟨locs, Y, N, eT, O, K, hx, hby, hml, hret, hlk, hown, hnm, hZ⟩ := X
  subst hp hv
  exact Go.go (fun t q => XS.ior Y.here hx rfl (hb hby hd) rfl q) k
theorem o_ixor {x y : Int32} {v : Int32} (X : Here p l e R s m args below meth c Z bytes maxL ret own nm h0 n0 ws T h cells slots) (hd : decode bytes pc = .ok (.ixor, 1)) (hp : pc + 1 = pc')  (hv : x ^^^ y = v)
    (k : Go p.tables e below P (T.setTop (mkF m pc' Ls (.int v :: st)))) : Go p.tables e below P (T.setTop (mkF m pc Ls (.int y :: .int x :: st))) := by
  obtain ⟨locs, Y, N, eT, O, K, hx, hby, hml, hret, hlk, hown, hnm, hZ⟩ := X
  subst hp hv
  exact Go.go (fun t q => XS.ixor Y.here hx rfl (hb hby hd) rfl q) k
theorem o_ishl {x y : Int32} {v : Int32} (X : Here p l e R s m args below meth c Z bytes maxL ret own nm h0 n0 ws T h cells slots) (hd : decode bytes pc = .ok (.ishl, 1)) (hp : pc + 1 = pc')  (hv : x <<< (y &&& 31) = v)
    (k : Go p.tables e below P (T.setTop (mkF m pc' Ls (.int v :: st)))) : Go p.tables e below P (T.setTop (mkF m pc Ls (.int y :: .int x :: st))) := by
  obtain ⟨locs, Y, N, eT, O, K, hx, hby, hml, hret, hlk, hown, hnm, hZ⟩ := X
  subst hp hv
  exact Go.go (fun t q => XS.ishl Y.here hx rfl (hb hby hd) rfl q) k
theorem o_ishr {x y : Int32} {v : Int32} (X : Here p l e R s m args below meth c Z bytes maxL ret own nm h0 n0 ws T h cells slots) (hd : decode bytes pc = .ok (.ishr, 1)) (hp : pc + 1 = pc')  (hv : x >>> (y &&& 31) = v)
    (k : Go p.tables e below P (T.setTop (mkF m pc' Ls (.int v :: st)))) : Go p.tables e below P (T.setTop (mkF m pc Ls (.int y :: .int x :: st))) := by
  obtain ⟨locs, Y, N, eT, O, K, hx, hby, hml, hret, hlk, hown, hnm, hZ⟩ := X
  subst hp hv
  exact Go.go (fun t q => XS.ishr Y.here hx rfl (hb hby hd) rfl q) k
theorem o_iushr {x y : Int32} {v : Int32} (X : Here p l e R s m args below meth c Z bytes maxL ret own nm h0 n0 ws T h cells slots) (hd : decode bytes pc = .ok (.iushr, 1)) (hp : pc + 1 = pc')  (hv : (x.toUInt32 >>> (y &&& 31).toUInt32).toInt32 = v)
    (k : Go p.tables e below P (T.setTop (mkF m pc' Ls (.int v :: st)))) : Go p.tables e below P (T.setTop (mkF m pc Ls (.int y :: .int x :: st))) := by
  obtain ⟨locs, Y, N, eT, O, K, hx, hby, hml, hret, hlk, hown, hnm, hZ⟩ := X
  subst hp hv
  exact Go.go (fun t q => XS.iushr Y.here hx rfl (hb hby hd) rfl q) k
theorem o_ladd {x y : Int64} {v : Int64} (X : Here p l e R s m args below meth c Z bytes maxL ret own nm h0 n0 ws T h cells slots) (hd : decode bytes pc = .ok (.ladd, 1)) (hp : pc + 1 = pc')  (hv : x + y = v)
    (k : Go p.tables e below P (T.setTop (mkF m pc' Ls (.long v :: st)))) : Go p.tables e below P (T.setTop (mkF m pc Ls (.long y :: .long x :: st))) := by
  obtain ⟨locs, Y, N, eT, O, K, hx, hby, hml, hret, hlk, hown, hnm, hZ⟩ := X
  subst hp hv
  exact Go.go (fun t q => XS.ladd Y.here hx rfl (hb hby hd) rfl q) k
theorem o_lsub {x y : Int64} {v : Int64} (X : Here p l e R s m args below meth c Z bytes maxL ret own nm h0 n0 ws T h cells slots) (hd : decode bytes pc = .ok (.lsub, 1)) (hp : pc + 1 = pc')  (hv : x - y = v)
    (k : Go p.tables e below P (T.setTop (mkF m pc' Ls (.long v :: st)))) : Go p.tables e below P (T.setTop (mkF m pc Ls (.long y :: .long x :: st))) := by
  obtain ⟨locs, Y, N, eT, O, K, hx, hby, hml, hret, hlk, hown, hnm, hZ⟩ := X
  subst hp hv
  exact Go.go (fun t q => XS.lsub Y.here hx rfl (hb hby hd) rfl q) k
theorem o_lmul {x y : Int64} {v : Int64} (X : Here p l e R s m args below meth c Z bytes maxL ret own nm h0 n0 ws T h cells slots) (hd : decode bytes pc = .ok (.lmul, 1)) (hp : pc + 1 = pc')  (hv : x * y = v)
    (k : Go p.tables e below P (T.setTop (mkF m pc' Ls (.long v :: st)))) : Go p.tables e below P (T.setTop (mkF m pc Ls (.long y :: .long x :: st))) := by
  obtain ⟨locs, Y, N, eT, O, K, hx, hby, hml, hret, hlk, hown, hnm, hZ⟩ := X
  subst hp hv
  exact Go.go (fun t q => XS.lmul Y.here hx rfl (hb hby hd) rfl q) k
theorem o_land {x y : Int64} {v : Int64} (X : Here p l e R s m args below meth c Z bytes maxL ret own nm h0 n0 ws T h cells slots) (hd : decode bytes pc = .ok (.land, 1)) (hp : pc + 1 = pc')  (hv : x &&& y = v)
    (k : Go p.tables e below P (T.setTop (mkF m pc' Ls (.long v :: st)))) : Go p.tables e below P (T.setTop (mkF m pc Ls (.long y :: .long x :: st))) := by
  obtain ⟨locs, Y, N, eT, O, K, hx, hby, hml, hret, hlk, hown, hnm, hZ⟩ := X
  subst hp hv
  exact Go.go (fun t q => XS.land Y.here hx rfl (hb hby hd) rfl q) k
theorem o_lor {x y : Int64} {v : Int64} (X : Here p l e R s m args below meth c Z bytes maxL ret own nm h0 n0 ws T h cells slots) (hd : decode bytes pc = .ok (.lor, 1)) (hp : pc + 1 = pc')  (hv : x ||| y = v)
    (k : Go p.tables e below P (T.setTop (mkF m pc' Ls (.long v :: st)))) : Go p.tables e below P (T.setTop (mkF m pc Ls (.long y :: .long x :: st))) := by
  obtain ⟨locs, Y, N, eT, O, K, hx, hby, hml, hret, hlk, hown, hnm, hZ⟩ := X
  subst hp hv
  exact Go.go (fun t q => XS.lor Y.here hx rfl (hb hby hd) rfl q) k
theorem o_lxor {x y : Int64} {v : Int64} (X : Here p l e R s m args below meth c Z bytes maxL ret own nm h0 n0 ws T h cells slots) (hd : decode bytes pc = .ok (.lxor, 1)) (hp : pc + 1 = pc')  (hv : x ^^^ y = v)
    (k : Go p.tables e below P (T.setTop (mkF m pc' Ls (.long v :: st)))) : Go p.tables e below P (T.setTop (mkF m pc Ls (.long y :: .long x :: st))) := by
  obtain ⟨locs, Y, N, eT, O, K, hx, hby, hml, hret, hlk, hown, hnm, hZ⟩ := X
  subst hp hv
  exact Go.go (fun t q => XS.lxor Y.here hx rfl (hb hby hd) rfl q) k
theorem o_lshl {x : Int64} {y : Int32} {v : Int64} (X : Here p l e R s m args below meth c Z bytes maxL ret own nm h0 n0 ws T h cells slots) (hd : decode bytes pc = .ok (.lshl, 1)) (hp : pc + 1 = pc')  (hv : x <<< (y &&& 0x3f).toInt64 = v)
    (k : Go p.tables e below P (T.setTop (mkF m pc' Ls (.long v :: st)))) : Go p.tables e below P (T.setTop (mkF m pc Ls (.int y :: .long x :: st))) := by
  obtain ⟨locs, Y, N, eT, O, K, hx, hby, hml, hret, hlk, hown, hnm, hZ⟩ := X
  subst hp hv
  exact Go.go (fun t q => XS.lshl Y.here hx rfl (hb hby hd) rfl q) k
theorem o_lshr {x : Int64} {y : Int32} {v : Int64} (X : Here p l e R s m args below meth c Z bytes maxL ret own nm h0 n0 ws T h cells slots) (hd : decode bytes pc = .ok (.lshr, 1)) (hp : pc + 1 = pc')  (hv : x >>> (y &&& 0x3f).toInt64 = v)
    (k : Go p.tables e below P (T.setTop (mkF m pc' Ls (.long v :: st)))) : Go p.tables e below P (T.setTop (mkF m pc Ls (.int y :: .long x :: st))) := by
  obtain ⟨locs, Y, N, eT, O, K, hx, hby, hml, hret, hlk, hown, hnm, hZ⟩ := X
  subst hp hv
  exact Go.go (fun t q => XS.lshr Y.here hx rfl (hb hby hd) rfl q) k
theorem o_lushr {x : Int64} {y : Int32} {v : Int64} (X : Here p l e R s m args below meth c Z bytes maxL ret own nm h0 n0 ws T h cells slots) (hd : decode bytes pc = .ok (.lushr, 1)) (hp : pc + 1 = pc')  (hv : (x.toUInt64 >>> (y &&& 0x3f).toInt64.toUInt64).toInt64 = v)
    (k : Go p.tables e below P (T.setTop (mkF m pc' Ls (.long v :: st)))) : Go p.tables e below P (T.setTop (mkF m pc Ls (.int y :: .long x :: st))) := by
  obtain ⟨locs, Y, N, eT, O, K, hx, hby, hml, hret, hlk, hown, hnm, hZ⟩ := X
  subst hp hv
  exact Go.go (fun t q => XS.lushr Y.here hx rfl (hb hby hd) rfl q) k
theorem o_lcmp {x y : Int64} {v : Int32} (X : Here p l e R s m args below meth c Z bytes maxL ret own nm h0 n0 ws T h cells slots) (hd : decode bytes pc = .ok (.lcmp, 1)) (hp : pc + 1 = pc')  (hv : lcmpW x y = v)
    (k : Go p.tables e below P (T.setTop (mkF m pc' Ls (.int v :: st)))) : Go p.tables e below P (T.setTop (mkF m pc Ls (.long y :: .long x :: st))) := by
  obtain ⟨locs, Y, N, eT, O, K, hx, hby, hml, hret, hlk, hown, hnm, hZ⟩ := X
  subst hp hv
  exact Go.go (fun t q => XS.lcmp Y.here hx rfl (hb hby hd) rfl q) k
theorem o_idiv {x y : Int32} {v : Int32} (X : Here p l e R s m args below meth c Z bytes maxL ret own nm h0 n0 ws T h cells slots) (hd : decode bytes pc = .ok (.idiv, 1)) (hp : pc + 1 = pc') (hy : y ≠ 0) (hv : x / y = v)
    (k : Go p.tables e below P (T.setTop (mkF m pc' Ls (.int v :: st)))) : Go p.tables e below P (T.setTop (mkF m pc Ls (.int y :: .int x :: st))) := by
  obtain ⟨locs, Y, N, eT, O, K, hx, hby, hml, hret, hlk, hown, hnm, hZ⟩ := X
  subst hp hv
  exact Go.go (fun t q => XS.idiv Y.here hx rfl (hb hby hd) rfl hy q) k
theorem o_irem {x y : Int32} {v : Int32} (X : Here p l e R s m args below meth c Z bytes maxL ret own nm h0 n0 ws T h cells slots) (hd : decode bytes pc = .ok (.irem, 1)) (hp : pc + 1 = pc') (hy : y ≠ 0) (hv : x % y = v)
    (k : Go p.tables e below P (T.setTop (mkF m pc' Ls (.int v :: st)))) : Go p.tables e below P (T.setTop (mkF m pc Ls (.int y :: .int x :: st))) := by
  obtain ⟨locs, Y, N, eT, O, K, hx, hby, hml, hret, hlk, hown, hnm, hZ⟩ := X
  subst hp hv
  exact Go.go (fun t q => iremM Y hx rfl (hb hby hd) rfl hy q) k
theorem o_ineg {x : Int32} {v : Int32} (X : Here p l e R s m args below meth c Z bytes maxL ret own nm h0 n0 ws T h cells slots) (hd : decode bytes pc = .ok (.ineg, 1)) (hp : pc + 1 = pc')  (hv : -x = v)
    (k : Go p.tables e below P (T.setTop (mkF m pc' Ls (.int v :: st)))) : Go p.tables e below P (T.setTop (mkF m pc Ls (.int x :: st))) := by
  obtain ⟨locs, Y, N, eT, O, K, hx, hby, hml, hret, hlk, hown, hnm, hZ⟩ := X
  subst hp hv
  exact Go.go (fun t q => XS.ineg Y.here hx rfl (hb hby hd) rfl q) k
theorem o_i2b {x : Int32} {v : Int32} (X : Here p l e R s m args below meth c Z bytes maxL ret own nm h0 n0 ws T h cells slots) (hd : decode bytes pc = .ok (.i2b, 1)) (hp : pc + 1 = pc')  (hv : x.toInt8.toInt32 = v)
    (k : Go p.tables e below P (T.setTop (mkF m pc' Ls (.int v :: st)))) : Go p.tables e below P (T.setTop (mkF m pc Ls (.int x :: st))) := by
  obtain ⟨locs, Y, N, eT, O, K, hx, hby, hml, hret, hlk, hown, hnm, hZ⟩ := X
  subst hp hv
  exact Go.go (fun t q => XS.i2b Y.here hx rfl (hb hby hd) rfl q) k
theorem o_i2c {x : Int32} {v : Int32} (X : Here p l e R s m args below meth c Z bytes maxL ret own nm h0 n0 ws T h cells slots) (hd : decode bytes pc = .ok (.i2c, 1)) (hp : pc + 1 = pc')  (hv : x.toUInt32.toUInt16.toUInt32.toInt32 = v)
    (k : Go p.tables e below P (T.setTop (mkF m pc' Ls (.int v :: st)))) : Go p.tables e below P (T.setTop (mkF m pc Ls (.int x :: st))) := by
  obtain ⟨locs, Y, N, eT, O, K, hx, hby, hml, hret, hlk, hown, hnm, hZ⟩ := X
  subst hp hv
  exact Go.go (fun t q => XS.i2c Y.here hx rfl (hb hby hd) rfl q) k
theorem o_i2s {x : Int32} {v : Int32} (X : Here p l e R s m args below meth c Z bytes maxL ret own nm h0 n0 ws T h cells slots) (hd : decode bytes pc = .ok (.i2s, 1)) (hp : pc + 1 = pc')  (hv : x.toInt16.toInt32 = v)
    (k : Go p.tables e below P (T.setTop (mkF m pc' Ls (.int v :: st)))) : Go p.tables e below P (T.setTop (mkF m pc Ls (.int x :: st))) := by
  obtain ⟨locs, Y, N, eT, O, K, hx, hby, hml, hret, hlk, hown, hnm, hZ⟩ := X
  subst hp hv
  exact Go.go (fun t q => XS.i2s Y.here hx rfl (hb hby hd) rfl q) k
theorem o_i2l {x : Int32} {v : Int64} (X : Here p l e R s m args below meth c Z bytes maxL ret own nm h0 n0 ws T h cells slots) (hd : decode bytes pc = .ok (.i2l, 1)) (hp : pc + 1 = pc')  (hv : x.toInt64 = v)
    (k : Go p.tables e below P (T.setTop (mkF m pc' Ls (.long v :: st)))) : Go p.tables e below P (T.setTop (mkF m pc Ls (.int x :: st))) := by
  obtain ⟨locs, Y, N, eT, O, K, hx, hby, hml, hret, hlk, hown, hnm, hZ⟩ := X
  subst hp hv
  exact Go.go (fun t q => XS.i2l Y.here hx rfl (hb hby hd) rfl q) k
theorem o_l2i {x : Int64} {v : Int32} (X : Here p l e R s m args below meth c Z bytes maxL ret own nm h0 n0 ws T h cells slots) (hd : decode bytes pc = .ok (.l2i, 1)) (hp : pc + 1 = pc')  (hv : x.toInt32 = v)
    (k : Go p.tables e below P (T.setTop (mkF m pc' Ls (.int v :: st)))) : Go p.tables e below P (T.setTop (mkF m pc Ls (.long x :: st))) := by
  obtain ⟨locs, Y, N, eT, O, K, hx, hby, hml, hret, hlk, hown, hnm, hZ⟩ := X
  subst hp hv
  exact Go.go (fun t q => XS.l2i Y.here hx rfl (hb hby hd) rfl q) k
theorem o_iinc {k : Nat} {i : Int} {x y : Int32} {l' : Array Slot} (X : Here p l e R s m args below meth c Z bytes maxL ret own nm h0 n0 ws T h cells slots) (hd : decode bytes pc = .ok (.iinc k i, 3)) (hp : pc + 3 = pc') (hl : Ls[k]? = some (.val (.int x))) (hy : x + Int32.ofInt i = y) (hl' : storeLocals Ls k (.int y) = some l')
    (k : Go p.tables e below P (T.setTop (mkF m pc' l' st))) : Go p.tables e below P (T.setTop (mkF m pc Ls st)) := by
  obtain ⟨locs, Y, N, eT, O, K, hx, hby, hml, hret, hlk, hown, hnm, hZ⟩ := X
  subst hp
  exact Go.go (fun t q => XS.iinc Y.here hx rfl (hb hby hd) hl (hy ▸ hl') q) k
theorem o_dup {x : Value} (X : Here p l e R s m args below meth c Z bytes maxL ret own nm h0 n0 ws T h cells slots) (hd : decode bytes pc = .ok (.dup, 1)) (hp : pc + 1 = pc') (hc : x.category = 1)
    (k : Go p.tables e below P (T.setTop (mkF m pc' Ls (x :: x :: st)))) : Go p.tables e below P (T.setTop (mkF m pc Ls (x :: st))) := by
  obtain ⟨locs, Y, N, eT, O, K, hx, hby, hml, hret, hlk, hown, hnm, hZ⟩ := X
  subst hp
  exact Go.go (fun t q => XS.dup Y.here hx rfl (hb hby hd) rfl hc q) k
theorem o_pop {x : Value} (X : Here p l e R s m args below meth c Z bytes maxL ret own nm h0 n0 ws T h cells slots) (hd : decode bytes pc = .ok (.pop, 1)) (hp : pc + 1 = pc') (hc : x.category = 1)
    (k : Go p.tables e below P (T.setTop (mkF m pc' Ls st))) : Go p.tables e below P (T.setTop (mkF m pc Ls (x :: st))) := by
  obtain ⟨locs, Y, N, eT, O, K, hx, hby, hml, hret, hlk, hown, hnm, hZ⟩ := X
  subst hp
  exact Go.go (fun t q => XS.pop Y.here hx rfl (hb hby hd) rfl hc q) k
theorem o_dupX1 {x y : Value} (X : Here p l e R s m args below meth c Z bytes maxL ret own nm h0 n0 ws T h cells slots) (hd : decode bytes pc = .ok (.dup_x1, 1)) (hp : pc + 1 = pc') (hc : x.category = 1) (hc' : y.category = 1)
    (k : Go p.tables e below P (T.setTop (mkF m pc' Ls (x :: y :: x :: st)))) : Go p.tables e below P (T.setTop (mkF m pc Ls (x :: y :: st))) := by
  obtain ⟨locs, Y, N, eT, O, K, hx, hby, hml, hret, hlk, hown, hnm, hZ⟩ := X
  subst hp
  exact Go.go (fun t q => XS.dupX1 Y.here hx rfl (hb hby hd) rfl hc hc' q) k
theorem o_dup2 {x y : Value} (X : Here p l e R s m args below meth c Z bytes maxL ret own nm h0 n0 ws T h cells slots) (hd : decode bytes pc = .ok (.dup2, 1)) (hp : pc + 1 = pc') (hc : x.category = 1) (hc' : y.category = 1)
    (k : Go p.tables e below P (T.setTop (mkF m pc' Ls (x :: y :: x :: y :: st)))) : Go p.tables e below P (T.setTop (mkF m pc Ls (x :: y :: st))) := by
  obtain ⟨locs, Y, N, eT, O, K, hx, hby, hml, hret, hlk, hown, hnm, hZ⟩ := X
  subst hp
  exact Go.go (fun t q => Jvm.Free.XT.dup2 Y.here hx rfl (hb hby hd) rfl hc hc' q) k
theorem o_goto  {o : Int} (X : Here p l e R s m args below meth c Z bytes maxL ret own nm h0 n0 ws T h cells slots) (hd : decode bytes pc = .ok (.goto o, 3)) (ho : 0 ≤ (pc : Int) + o) (hp : ((pc : Int) + o).toNat = pc') 
    (k : Go p.tables e below P (T.setTop (mkF m pc' Ls st))) : Go p.tables e below P (T.setTop (mkF m pc Ls st)) := by
  obtain ⟨locs, Y, N, eT, O, K, hx, hby, hml, hret, hlk, hown, hnm, hZ⟩ := X
  exact Go.go (fun t q => XS.goto Y.here hx rfl (pc0 := pc) (pc' := pc') rfl (hb hby hd)  ho hp q) k
theorem o_ifYes {cd : ClassFile.Cond} {x : Int32} {o : Int} (X : Here p l e R s m args below meth c Z bytes maxL ret own nm h0 n0 ws T h cells slots) (hd : decode bytes pc = .ok (.ifCond cd o, 3)) (ho : 0 ≤ (pc : Int) + o) (hp : ((pc : Int) + o).toNat = pc') (hc : ifCond.holds cd x = true)
    (k : Go p.tables e below P (T.setTop (mkF m pc' Ls st))) : Go p.tables e below P (T.setTop (mkF m pc Ls (.int x :: st))) := by
  obtain ⟨locs, Y, N, eT, O, K, hx, hby, hml, hret, hlk, hown, hnm, hZ⟩ := X
  exact Go.go (fun t q => XS.ifYes Y.here hx rfl (pc0 := pc) (pc' := pc') rfl (hb hby hd) rfl hc ho hp q) k
theorem o_ifNo {cd : ClassFile.Cond} {x : Int32} {o : Int} (X : Here p l e R s m args below meth c Z bytes maxL ret own nm h0 n0 ws T h cells slots) (hd : decode bytes pc = .ok (.ifCond cd o, 3)) (hp : pc + 3 = pc') (hc : ifCond.holds cd x = false)
    (k : Go p.tables e below P (T.setTop (mkF m pc' Ls st))) : Go p.tables e below P (T.setTop (mkF m pc Ls (.int x :: st))) := by
  obtain ⟨locs, Y, N, eT, O, K, hx, hby, hml, hret, hlk, hown, hnm, hZ⟩ := X
  subst hp
  exact Go.go (fun t q => XS.ifNo Y.here hx rfl (hb hby hd) rfl hc q) k
theorem o_icmpYes {cd : ClassFile.Cond} {x y : Int32} {o : Int} (X : Here p l e R s m args below meth c Z bytes maxL ret own nm h0 n0 ws T h cells slots) (hd : decode bytes pc = .ok (.if_icmp cd o, 3)) (ho : 0 ≤ (pc : Int) + o) (hp : ((pc : Int) + o).toNat = pc') (hc : if_icmp.holds cd x y = true)
    (k : Go p.tables e below P (T.setTop (mkF m pc' Ls st))) : Go p.tables e below P (T.setTop (mkF m pc Ls (.int y :: .int x :: st))) := by
  obtain ⟨locs, Y, N, eT, O, K, hx, hby, hml, hret, hlk, hown, hnm, hZ⟩ := X
  exact Go.go (fun t q => XS.icmpYes Y.here hx rfl (pc0 := pc) (pc' := pc') rfl (hb hby hd) rfl hc ho hp q) k
theorem o_icmpNo {cd : ClassFile.Cond} {x y : Int32} {o : Int} (X : Here p l e R s m args below meth c Z bytes maxL ret own nm h0 n0 ws T h cells slots) (hd : decode bytes pc = .ok (.if_icmp cd o, 3)) (hp : pc + 3 = pc') (hc : if_icmp.holds cd x y = false)
    (k : Go p.tables e below P (T.setTop (mkF m pc' Ls st))) : Go p.tables e below P (T.setTop (mkF m pc Ls (.int y :: .int x :: st))) := by
  obtain ⟨locs, Y, N, eT, O, K, hx, hby, hml, hret, hlk, hown, hnm, hZ⟩ := X
  subst hp
  exact Go.go (fun t q => XS.icmpNo Y.here hx rfl (hb hby hd) rfl hc q) k
theorem o_ifnullYes  {o : Int} (X : Here p l e R s m args below meth c Z bytes maxL ret own nm h0 n0 ws T h cells slots) (hd : decode bytes pc = .ok (.ifnull o, 3)) (ho : 0 ≤ (pc : Int) + o) (hp : ((pc : Int) + o).toNat = pc') 
    (k : Go p.tables e below P (T.setTop (mkF m pc' Ls st))) : Go p.tables e below P (T.setTop (mkF m pc Ls (.null :: st))) := by
  obtain ⟨locs, Y, N, eT, O, K, hx, hby, hml, hret, hlk, hown, hnm, hZ⟩ := X
  exact Go.go (fun t q => XS.ifnullYes Y.here hx rfl (pc0 := pc) (pc' := pc') rfl (hb hby hd) rfl  ho hp q) k
theorem o_ifnullNo {b : Addr} {o : Int} (X : Here p l e R s m args below meth c Z bytes maxL ret own nm h0 n0 ws T h cells slots) (hd : decode bytes pc = .ok (.ifnull o, 3)) (hp : pc + 3 = pc') 
    (k : Go p.tables e below P (T.setTop (mkF m pc' Ls st))) : Go p.tables e below P (T.setTop (mkF m pc Ls (.ref b :: st))) := by
  obtain ⟨locs, Y, N, eT, O, K, hx, hby, hml, hret, hlk, hown, hnm, hZ⟩ := X
  subst hp
  exact Go.go (fun t q => XS.ifnullNo Y.here hx rfl (hb hby hd) rfl  q) k
theorem o_ifnonnullYes {b : Addr} {o : Int} (X : Here p l e R s m args below meth c Z bytes maxL ret own nm h0 n0 ws T h cells slots) (hd : decode bytes pc = .ok (.ifnonnull o, 3)) (ho : 0 ≤ (pc : Int) + o) (hp : ((pc : Int) + o).toNat = pc') 
    (k : Go p.tables e below P (T.setTop (mkF m pc' Ls st))) : Go p.tables e below P (T.setTop (mkF m pc Ls (.ref b :: st))) := by
  obtain ⟨locs, Y, N, eT, O, K, hx, hby, hml, hret, hlk, hown, hnm, hZ⟩ := X
  exact Go.go (fun t q => XS.ifnonnullYes Y.here hx rfl (pc0 := pc) (pc' := pc') rfl (hb hby hd) rfl  ho hp q) k
theorem o_ifnonnullNo  {o : Int} (X : Here p l e R s m args below meth c Z bytes maxL ret own nm h0 n0 ws T h cells slots) (hd : decode bytes pc = .ok (.ifnonnull o, 3)) (hp : pc + 3 = pc') 
    (k : Go p.tables e below P (T.setTop (mkF m pc' Ls st))) : Go p.tables e below P (T.setTop (mkF m pc Ls (.null :: st))) := by
  obtain ⟨locs, Y, N, eT, O, K, hx, hby, hml, hret, hlk, hown, hnm, hZ⟩ := X
  subst hp
  exact Go.go (fun t q => XS.ifnonnullNo Y.here hx rfl (hb hby hd) rfl  q) k
theorem o_acmp {cd : ACond} {x y : Value} {o : Int} {same : Bool} (X : Here p l e R s m args below meth c Z bytes maxL ret own nm h0 n0 ws T h cells slots) (hd : decode bytes pc = .ok (.if_acmp cd o, 3)) (h1 : x.isRef = true) (h2 : y.isRef = true) (hq : decide (x = y) = same) (ho : 0 ≤ (pc : Int) + o) (hp : pc' = if acV cd same = true then ((pc : Int) + o).toNat else pc + 3)
    (k : Go p.tables e below P (T.setTop (mkF m pc' Ls st))) : Go p.tables e below P (T.setTop (mkF m pc Ls (y :: x :: st))) := by
  obtain ⟨locs, Y, N, eT, O, K, hx, hby, hml, hret, hlk, hown, hnm, hZ⟩ := X
  exact Go.go (fun t q => RoadKit.acmp (g := mkF m pc Ls (y :: x :: st)) Y hx rfl h1 h2 (pc0 := pc) (pc' := pc') rfl (hb hby hd) rfl hq ho hp q) k
theorem o_getF {R0 O n d : String} {index : Nat} {a : Addr} {v : Value} (X : Here p l e R s m args below meth c Z bytes maxL ret own nm h0 n0 ws T h cells slots) (w : (Cond.fieldLink own index R0 n d).before a0 Z = true) (via : Via Z R0 O n d) (F : Fld Z h a O n d v) (hd : decode bytes pc = .ok (.getfield index, 3)) (hp : pc + 3 = pc')
    (k : ∀ T', Here p l e R s m args below meth c Z bytes maxL ret own nm h0 n0 ws T' h cells slots → Go p.tables e below P (T'.setTop (mkF m pc' Ls (v :: st)))) : Go p.tables e below P (T.setTop (mkF m pc Ls (.ref a :: st))) := by
  obtain ⟨locs, Y, N, eT, O, K, hx, hby, hml, hret, hlk, hown, hnm, hZ⟩ := X
  subst hp
  obtain ⟨T', Y', e', st'⟩ := RoadKit.getF Y hx hZ hown (host := "") (Or.inl w) via eT F (g := mkF m pc Ls (.ref a :: st)) rfl rfl (hb hby hd)
  exact Go.go st' (k T' ⟨locs, Y', N, e', O, K, hx, hby, hml, hret, hlk, hown, hnm, hZ⟩)
theorem o_getFN {R0 O n d host : String} {index : Nat} {a : Addr} {v : Value} (X : Here p l e R s m args below meth c Z bytes maxL ret own nm h0 n0 ws T h cells slots) (w : (Cond.fieldLinkNest own index R0 n d host).before a0 Z = true) (via : Via Z R0 O n d) (F : Fld Z h a O n d v) (hd : decode bytes pc = .ok (.getfield index, 3)) (hp : pc + 3 = pc')
    (k : ∀ T', Here p l e R s m args below meth c Z bytes maxL ret own nm h0 n0 ws T' h cells slots → Go p.tables e below P (T'.setTop (mkF m pc' Ls (v :: st)))) : Go p.tables e below P (T.setTop (mkF m pc Ls (.ref a :: st))) := by
  obtain ⟨locs, Y, N, eT, O, K, hx, hby, hml, hret, hlk, hown, hnm, hZ⟩ := X
  subst hp
  obtain ⟨T', Y', e', st'⟩ := RoadKit.getF Y hx hZ hown (Or.inr w) via eT F (g := mkF m pc Ls (.ref a :: st)) rfl rfl (hb hby hd)
  exact Go.go st' (k T' ⟨locs, Y', N, e', O, K, hx, hby, hml, hret, hlk, hown, hnm, hZ⟩)
theorem o_getS {R0 O n d : String} {index : Nat} {v : Value} (X : Here p l e R s m args below meth c Z bytes maxL ret own nm h0 n0 ws T h cells slots) (w : (Cond.fieldLink own index R0 n d).before a0 Z = true) (via : Via Z R0 O n d) (F : Sta Z h O n d v) (hd : decode bytes pc = .ok (.getstatic index, 3)) (hp : pc + 3 = pc')
    (k : ∀ T', Here p l e R s m args below meth c Z bytes maxL ret own nm h0 n0 ws T' h cells slots → Go p.tables e below P (T'.setTop (mkF m pc' Ls (v :: st)))) : Go p.tables e below P (T.setTop (mkF m pc Ls st)) := by
  obtain ⟨locs, Y, N, eT, O, K, hx, hby, hml, hret, hlk, hown, hnm, hZ⟩ := X
  subst hp
  obtain ⟨T', Y', e', st'⟩ := getS2 Y hx hZ hown (host := "") (Or.inl w) via eT F (g := mkF m pc Ls st) rfl (hb hby hd)
  exact Go.go st' (k T' ⟨locs, Y', N, e', O, K, hx, hby, hml, hret, hlk, hown, hnm, hZ⟩)
theorem o_getSN {R0 O n d host : String} {index : Nat} {v : Value} (X : Here p l e R s m args below meth c Z bytes maxL ret own nm h0 n0 ws T h cells slots) (w : (Cond.fieldLinkNest own index R0 n d host).before a0 Z = true) (via : Via Z R0 O n d) (F : Sta Z h O n d v) (hd : decode bytes pc = .ok (.getstatic index, 3)) (hp : pc + 3 = pc')
    (k : ∀ T', Here p l e R s m args below meth c Z bytes maxL ret own nm h0 n0 ws T' h cells slots → Go p.tables e below P (T'.setTop (mkF m pc' Ls (v :: st)))) : Go p.tables e below P (T.setTop (mkF m pc Ls st)) := by
  obtain ⟨locs, Y, N, eT, O, K, hx, hby, hml, hret, hlk, hown, hnm, hZ⟩ := X
  subst hp
  obtain ⟨T', Y', e', st'⟩ := getS2 Y hx hZ hown (Or.inr w) via eT F (g := mkF m pc Ls st) rfl (hb hby hd)
  exact Go.go st' (k T' ⟨locs, Y', N, e', O, K, hx, hby, hml, hret, hlk, hown, hnm, hZ⟩)
theorem o_castY {K' : String} {index : Nat} {a : Addr} (X : Here p l e R s m args below meth c Z bytes maxL ret own nm h0 n0 ws T h cells slots) (w : (Cond.classLink own index K').before a0 Z = true) (F : Ins Z h a K' true) (hd : decode bytes pc = .ok (.checkcast index, 3)) (hp : pc + 3 = pc')
    (k : ∀ T', Here p l e R s m args below meth c Z bytes maxL ret own nm h0 n0 ws T' h cells slots → Go p.tables e below P (T'.setTop (mkF m pc' Ls (.ref a :: st)))) : Go p.tables e below P (T.setTop (mkF m pc Ls (.ref a :: st))) := by
  obtain ⟨locs, Y, N, eT, O, K, hx, hby, hml, hret, hlk, hown, hnm, hZ⟩ := X
  subst hp
  obtain ⟨T', Y', e', st'⟩ := RoadKit.castY Y hx hZ hown w eT F (g := mkF m pc Ls (.ref a :: st)) rfl rfl (hb hby hd)
  exact Go.go st' (k T' ⟨locs, Y', N, e', O, K, hx, hby, hml, hret, hlk, hown, hnm, hZ⟩)
theorem o_instY {K' : String} {index : Nat} {a : Addr} (X : Here p l e R s m args below meth c Z bytes maxL ret own nm h0 n0 ws T h cells slots) (w : (Cond.classLink own index K').before a0 Z = true) (F : Ins Z h a K' true) (hd : decode bytes pc = .ok (.instanceof index, 3)) (hp : pc + 3 = pc')
    (k : ∀ T', Here p l e R s m args below meth c Z bytes maxL ret own nm h0 n0 ws T' h cells slots → Go p.tables e below P (T'.setTop (mkF m pc' Ls (.int 1 :: st)))) : Go p.tables e below P (T.setTop (mkF m pc Ls (.ref a :: st))) := by
  obtain ⟨locs, Y, N, eT, O, K, hx, hby, hml, hret, hlk, hown, hnm, hZ⟩ := X
  subst hp
  obtain ⟨T', Y', e', st'⟩ := RoadKit.instY Y hx hZ hown w eT F (g := mkF m pc Ls (.ref a :: st)) rfl rfl (hb hby hd)
  exact Go.go st' (k T' ⟨locs, Y', N, e', O, K, hx, hby, hml, hret, hlk, hown, hnm, hZ⟩)
theorem o_instNo {K' C : String} {index : Nat} {a : Addr} (X : Here p l e R s m args below meth c Z bytes maxL ret own nm h0 n0 ws T h cells slots) (w : (Cond.classLink own index K').before a0 Z = true) (E : Exa Z h a C) (F : ∃ c t, Z.vm.findClass C = some c ∧ Z.vm.findClass K' = some t ∧ Z.vm.assignable c t = false) (hd : decode bytes pc = .ok (.instanceof index, 3)) (hp : pc + 3 = pc')
    (k : ∀ T', Here p l e R s m args below meth c Z bytes maxL ret own nm h0 n0 ws T' h cells slots → Go p.tables e below P (T'.setTop (mkF m pc' Ls (.int 0 :: st)))) : Go p.tables e below P (T.setTop (mkF m pc Ls (.ref a :: st))) := by
  obtain ⟨locs, Y, N, eT, O, K, hx, hby, hml, hret, hlk, hown, hnm, hZ⟩ := X
  subst hp
  obtain ⟨T', Y', e', st'⟩ := RoadKit.instNo Y hx hZ hown w eT E F (g := mkF m pc Ls (.ref a :: st)) rfl rfl (hb hby hd)
  exact Go.go st' (k T' ⟨locs, Y', N, e', O, K, hx, hby, hml, hret, hlk, hown, hnm, hZ⟩)
theorem o_initO {idx W : Nat} {a : Addr} (X : Here p l e R s m args below meth c Z bytes maxL ret own nm h0 n0 ws T h cells slots) (w1 : (Cond.methodLink own idx Lib.objectInit).before a0 Z = true) (w2 : (Cond.instanceMethod Lib.objectInit).before a0 Z = true) (w3 : (Cond.code Lib.objectInit ⟨#[0xb1]⟩ 1 none).before a0 Z = true) (hsz : Ls.size = maxL) (hf : 1 ≤ R.frames) (hW : (st.map fun v => v.category).sum ≤ W) (hl : W + 12 ≤ R.locals) (hd : decode bytes pc = .ok (.invokespecial idx, 3)) (hp : pc + 3 = pc')
    (k : ∀ T', Here p l e R s m args below meth c Z bytes maxL ret own nm h0 n0 ws T' h cells slots → Go p.tables e below P (T'.setTop (mkF m pc' Ls st))) : Go p.tables e below P (T.setTop (mkF m pc Ls (.ref a :: st))) := by
  obtain ⟨locs, Y, N, eT, O, K, hx, hby, hml, hret, hlk, hown, hnm, hZ⟩ := X
  subst hp
  obtain ⟨T', Y', e', st'⟩ := RoadKit.initO Y hx hZ hown w1 w2 w3 eT (g := mkF m pc Ls (.ref a :: st)) rfl (by rw [hml]; exact hsz) rfl (hb hby hd) hf (W := W) (by show 2 * 0 + _ ≤ _; omega) hl
  exact Go.go st' (k T' ⟨locs, Y', N, e', O, K, hx, hby, hml, hret, hlk, hown, hnm, hZ⟩)
theorem o_instNull {index : Nat} (X : Here p l e R s m args below meth c Z bytes maxL ret own nm h0 n0 ws T h cells slots) (hd : decode bytes pc = .ok (.instanceof index, 3)) (hp : pc + 3 = pc')
    (k : Go p.tables e below P (T.setTop (mkF m pc' Ls (.int 0 :: st)))) : Go p.tables e below P (T.setTop (mkF m pc Ls (.null :: st))) := by
  obtain ⟨locs, Y, N, eT, O, K, hx, hby, hml, hret, hlk, hown, hnm, hZ⟩ := X
  subst hp
  exact Go.go (Y.instanceofNull hx (g := mkF m pc Ls (.null :: st)) rfl rfl (hb hby hd)) k
theorem o_castNull {index : Nat} (X : Here p l e R s m args below meth c Z bytes maxL ret own nm h0 n0 ws T h cells slots) (hd : decode bytes pc = .ok (.checkcast index, 3)) (hp : pc + 3 = pc')
    (k : Go p.tables e below P (T.setTop (mkF m pc' Ls (.null :: st)))) : Go p.tables e below P (T.setTop (mkF m pc Ls (.null :: st))) := by
  obtain ⟨locs, Y, N, eT, O, K, hx, hby, hml, hret, hlk, hown, hnm, hZ⟩ := X
  subst hp
  exact Go.go (Y.checkcastNull hx (g := mkF m pc Ls (.null :: st)) rfl rfl (hb hby hd)) k
theorem o_len {a : Addr} {ka : ClassId} {ty : FieldType} {n : Int32} {vs : List Value} {d : Value} (X : Here p l e R s m args below meth c Z bytes maxL ret own nm h0 n0 ws T h cells slots) (F : Arv Z h a ka ty n vs d) (hd : decode bytes pc = .ok (.arraylength, 1)) (hp : pc + 1 = pc')
    (k : Go p.tables e below P (T.setTop (mkF m pc' Ls (.int n :: st)))) : Go p.tables e below P (T.setTop (mkF m pc Ls (.ref a :: st))) := by
  obtain ⟨locs, Y, N, eT, O, K, hx, hby, hml, hret, hlk, hown, hnm, hZ⟩ := X
  subst hp
  obtain ⟨cl, A, -, S, q, -⟩ := F
  refine Go.go (Y.arraylength hx (by rw [eT]; exact A.1) (State.isArrayOf_alike hZ.alike A.2.1) (g := mkF m pc Ls (.ref a :: st)) rfl rfl (hb hby hd)) ?_
  rw [len_of S q]
  exact k
theorem o_iaload {a : Addr} {ka : ClassId} {n j : Int32} {vs : List Value} {d v : Value} (X : Here p l e R s m args below meth c Z bytes maxL ret own nm h0 n0 ws T h cells slots) (F : Arv Z h a ka .int n vs d) (hj : ¬ j < 0 ∧ j < n) (hv : vs.getD j.toNatClampNeg d = v) (hd : decode bytes pc = .ok (.iaload, 1)) (hp : pc + 1 = pc')
    (k : Go p.tables e below P (T.setTop (mkF m pc' Ls (v :: st)))) : Go p.tables e below P (T.setTop (mkF m pc Ls (.int j :: .ref a :: st))) := by
  obtain ⟨locs, Y, N, eT, O, K, hx, hby, hml, hret, hlk, hown, hnm, hZ⟩ := X
  subst hp
  obtain ⟨cl, A, -, S, q, H, -⟩ := F
  have hin := inb_of S hj
  exact Go.go (Y.iaload hx (by rw [eT]; exact A.1) (State.isArrayOf_alike hZ.alike A.2.1) A.2.2 hin (H.at hin hv) (g := mkF m pc Ls (.int j :: .ref a :: st)) rfl rfl (hb hby hd)) k
theorem o_caload {a : Addr} {ka : ClassId} {n j : Int32} {vs : List Value} {d v : Value} (X : Here p l e R s m args below meth c Z bytes maxL ret own nm h0 n0 ws T h cells slots) (F : Arv Z h a ka .char n vs d) (hj : ¬ j < 0 ∧ j < n) (hv : vs.getD j.toNatClampNeg d = v) (hd : decode bytes pc = .ok (.caload, 1)) (hp : pc + 1 = pc')
    (k : Go p.tables e below P (T.setTop (mkF m pc' Ls (v :: st)))) : Go p.tables e below P (T.setTop (mkF m pc Ls (.int j :: .ref a :: st))) := by
  obtain ⟨locs, Y, N, eT, O, K, hx, hby, hml, hret, hlk, hown, hnm, hZ⟩ := X
  subst hp
  obtain ⟨cl, A, -, S, q, H, -⟩ := F
  have hin := inb_of S hj
  exact Go.go (Y.caload hx (by rw [eT]; exact A.1) (State.isArrayOf_alike hZ.alike A.2.1) A.2.2 hin (H.at hin hv) (g := mkF m pc Ls (.int j :: .ref a :: st)) rfl rfl (hb hby hd)) k
theorem o_baload {a : Addr} {ka : ClassId} {n j : Int32} {vs : List Value} {d v : Value} (X : Here p l e R s m args below meth c Z bytes maxL ret own nm h0 n0 ws T h cells slots) (F : Arv Z h a ka .byte n vs d) (hj : ¬ j < 0 ∧ j < n) (hv : vs.getD j.toNatClampNeg d = v) (hd : decode bytes pc = .ok (.baload, 1)) (hp : pc + 1 = pc')
    (k : Go p.tables e below P (T.setTop (mkF m pc' Ls (v :: st)))) : Go p.tables e below P (T.setTop (mkF m pc Ls (.int j :: .ref a :: st))) := by
  obtain ⟨locs, Y, N, eT, O, K, hx, hby, hml, hret, hlk, hown, hnm, hZ⟩ := X
  subst hp
  obtain ⟨cl, A, -, S, q, H, -⟩ := F
  have hin := inb_of S hj
  exact Go.go (Y.baloadBytes hx (by rw [eT]; exact A.1) (State.isArrayOf_alike hZ.alike A.2.1) A.2.2 hin (H.at hin hv) (g := mkF m pc Ls (.int j :: .ref a :: st)) rfl rfl (hb hby hd)) k
theorem o_laload {a : Addr} {ka : ClassId} {n j : Int32} {vs : List Value} {d v : Value} (X : Here p l e R s m args below meth c Z bytes maxL ret own nm h0 n0 ws T h cells slots) (F : Arv Z h a ka .long n vs d) (hj : ¬ j < 0 ∧ j < n) (hv : vs.getD j.toNatClampNeg d = v) (hd : decode bytes pc = .ok (.laload, 1)) (hp : pc + 1 = pc')
    (k : Go p.tables e below P (T.setTop (mkF m pc' Ls (v :: st)))) : Go p.tables e below P (T.setTop (mkF m pc Ls (.int j :: .ref a :: st))) := by
  obtain ⟨locs, Y, N, eT, O, K, hx, hby, hml, hret, hlk, hown, hnm, hZ⟩ := X
  subst hp
  obtain ⟨cl, A, -, S, q, H, -⟩ := F
  have hin := inb_of S hj
  exact Go.go (Y.laload hx (by rw [eT]; exact A.1) (State.isArrayOf_alike hZ.alike A.2.1) A.2.2 hin (H.at hin hv) (g := mkF m pc Ls (.int j :: .ref a :: st)) rfl rfl (hb hby hd)) k
theorem o_saload {a : Addr} {ka : ClassId} {n j : Int32} {vs : List Value} {d v : Value} (X : Here p l e R s m args below meth c Z bytes maxL ret own nm h0 n0 ws T h cells slots) (F : Arv Z h a ka .short n vs d) (hj : ¬ j < 0 ∧ j < n) (hv : vs.getD j.toNatClampNeg d = v) (hd : decode bytes pc = .ok (.saload, 1)) (hp : pc + 1 = pc')
    (k : Go p.tables e below P (T.setTop (mkF m pc' Ls (v :: st)))) : Go p.tables e below P (T.setTop (mkF m pc Ls (.int j :: .ref a :: st))) := by
  obtain ⟨locs, Y, N, eT, O, K, hx, hby, hml, hret, hlk, hown, hnm, hZ⟩ := X
  subst hp
  obtain ⟨cl, A, -, S, q, H, -⟩ := F
  have hin := inb_of S hj
  exact Go.go (Y.saload hx (by rw [eT]; exact A.1) (State.isArrayOf_alike hZ.alike A.2.1) A.2.2 hin (H.at hin hv) (g := mkF m pc Ls (.int j :: .ref a :: st)) rfl rfl (hb hby hd)) k
theorem o_aaload {a : Addr} {ka : ClassId} {ty : FieldType} {n j : Int32} {vs : List Value} {d v : Value} (X : Here p l e R s m args below meth c Z bytes maxL ret own nm h0 n0 ws T h cells slots) (F : Arv Z h a ka ty n vs d) (hty : ty.isReference = true) (hj : ¬ j < 0 ∧ j < n) (hv : vs.getD j.toNatClampNeg d = v) (hd : decode bytes pc = .ok (.aaload, 1)) (hp : pc + 1 = pc')
    (k : Go p.tables e below P (T.setTop (mkF m pc' Ls (v :: st)))) : Go p.tables e below P (T.setTop (mkF m pc Ls (.int j :: .ref a :: st))) := by
  obtain ⟨locs, Y, N, eT, O, K, hx, hby, hml, hret, hlk, hown, hnm, hZ⟩ := X
  subst hp
  obtain ⟨cl, A, -, S, q, H, -⟩ := F
  have hin := inb_of S hj
  exact Go.go (Y.aaload hx (by rw [eT]; exact A.1) (State.isArrayOf_alike hZ.alike A.2.1) hty A.2.2 hin (H.at hin hv) (g := mkF m pc Ls (.int j :: .ref a :: st)) rfl rfl (hb hby hd)) k
theorem o_new {C : String} {index kk : Nat} (X : Here p l e R s m args below meth c Z bytes maxL ret own nm h0 n0 ws T h cells slots) (w : (Cond.classLink own index C).before a0 Z = true) (wi : (Cond.instantiable C kk).before a0 Z = true) (wz : (Cond.initialized C).before a0 Z = true) (hd : decode bytes pc = .ok (.new index, 3)) (hp : pc + 3 = pc') (hc : cells + 1 ≤ R.cells) (hl : slots + kk ≤ R.slots)
    (k : ∀ T' h' b, Here p l e R s m args below meth c Z bytes maxL ret own nm h0 n0 ws T' h' (cells + 1) (slots + kk) → b = h.size → b < h'.size → Ext h h' → Exa Z h' b C → (∀ {O nm d : String} {ty : FieldType}, Laid Z a0 C O nm d → parseFieldDescriptor d = some ty → Fld Z h' b O nm d (defaultValue ty)) → Unt h' b → Go p.tables e below P (T'.setTop (mkF m pc' Ls (.ref b :: st)))) : Go p.tables e below P (T.setTop (mkF m pc Ls st)) := by
  obtain ⟨locs, Y, N, eT, O, K, hx, hby, hml, hret, hlk, hown, hnm, hZ⟩ := X
  subst hp
  obtain ⟨T', h', Y', e', E', A', D', U', st'⟩ := newO Y hx hZ hown w wi wz eT (g := mkF m pc Ls st) rfl (hb hby hd) hc hl
  exact Go.go st' (k T' h' _ ⟨locs, Y', N, e', O.ext E', K.ext E', hx, hby, hml, hret, hlk, hown, hnm, hZ⟩ rfl A'.lt E' A' D' U')
theorem o_newP {aty : ArrayType} {n : Int32} {cap : Nat} {ad : String} (X : Here p l e R s m args below meth c Z bytes maxL ret own nm h0 n0 ws T h cells slots) (w : (Cond.arrayClass (newarray.typeOf aty)).before a0 Z = true) (hd : decode bytes pc = .ok (.newarray aty, 2)) (hp : pc + 2 = pc') (hn : ¬ n < 0) (hcap : n.toNatClampNeg ≤ cap) (hb' : cap * 8 ≤ 536870912) (hc : cells + 1 ≤ R.cells) (hl : slots + cap ≤ R.slots) (had : "[" ++ (newarray.typeOf aty).toString = ad)
    (k : ∀ T' h' b ka, Here p l e R s m args below meth c Z bytes maxL ret own nm h0 n0 ws T' h' (cells + 1) (slots + cap) → b = h.size → b < h'.size → Ext h h' → Arv Z h' b ka (newarray.typeOf aty) n [] (defaultValue (newarray.typeOf aty)) → Exa Z h' b ad → Go p.tables e below P (T'.setTop (mkF m pc' Ls (.ref b :: st)))) : Go p.tables e below P (T.setTop (mkF m pc Ls (.int n :: st))) := by
  obtain ⟨locs, Y, N, eT, O, K, hx, hby, hml, hret, hlk, hown, hnm, hZ⟩ := X
  subst hp
  obtain ⟨T', h', ka, Y', e', E', A', B', st'⟩ := newPE Y hx hZ w eT (g := mkF m pc Ls (.int n :: st)) rfl (hb hby hd) rfl hn hcap hb' hc hl had
  exact Go.go st' (k T' h' _ ka ⟨locs, Y', N, e', O.ext E', K.ext E', hx, hby, hml, hret, hlk, hown, hnm, hZ⟩ rfl A'.lt E' (Arv.new A' hn) B')
theorem o_newR {C ad : String} {index : Nat} {n : Int32} {cap : Nat} (X : Here p l e R s m args below meth c Z bytes maxL ret own nm h0 n0 ws T h cells slots) (w : (Cond.classLink own index C).before a0 Z = true) (w2 : (Cond.arrayOver (.object C)).before a0 Z = true) (hd : decode bytes pc = .ok (.anewarray index, 3)) (hp : pc + 3 = pc') (hn : ¬ n < 0) (hcap : n.toNatClampNeg ≤ cap) (hb' : cap * 8 ≤ 536870912) (hc : cells + 1 ≤ R.cells) (hl : slots + cap ≤ R.slots) (had : "[" ++ (FieldType.object C).toString = ad)
    (k : ∀ T' h' b ka, Here p l e R s m args below meth c Z bytes maxL ret own nm h0 n0 ws T' h' (cells + 1) (slots + cap) → b = h.size → b < h'.size → Ext h h' → Arv Z h' b ka (.object C) n [] .null → Ovr Z ka C → Exa Z h' b ad → Go p.tables e below P (T'.setTop (mkF m pc' Ls (.ref b :: st)))) : Go p.tables e below P (T.setTop (mkF m pc Ls (.int n :: st))) := by
  obtain ⟨locs, Y, N, eT, O, K, hx, hby, hml, hret, hlk, hown, hnm, hZ⟩ := X
  subst hp
  obtain ⟨T', h', ka, Y', e', E', A', B', V', st'⟩ := newRE Y hx hZ hown w w2 eT (g := mkF m pc Ls (.int n :: st)) rfl (hb hby hd) rfl hn hcap hb' hc hl had
  exact Go.go st' (k T' h' _ ka ⟨locs, Y', N, e', O.ext E', K.ext E', hx, hby, hml, hret, hlk, hown, hnm, hZ⟩ rfl A'.lt E' (Arv.new A' hn) V' B')
theorem o_putF {R0 O n d C : String} {index kk : Nat} {ty : FieldType} {a : Addr} {v v' old : Value} (X : Here p l e R s m args below meth c Z bytes maxL ret own nm h0 n0 ws T h cells slots) (w : (Cond.fieldLink own index R0 n d).before a0 Z = true) (via : Via Z R0 O n d) (F : Fld Z h a O n d old) (E : Exa Z h a C) (L : (Cond.lays C O n d).before a0 Z = true ∨ ((Cond.laysFinal C O n d).before a0 Z = true ∧ own = O ∧ nm = "<init>")) (wi : (Cond.instantiable C kk).before a0 Z = true) (hty : parseFieldDescriptor d = some ty) (hv : narrow ty v = v') (hf : fits ty v' = true) (hd : decode bytes pc = .ok (.putfield index, 3)) (hp : pc + 3 = pc') (hn0 : n0 ≤ a) (hws : a ∈ ws ∨ h0.size ≤ a)
    (k : ∀ T' h', Here p l e R s m args below meth c Z bytes maxL ret own nm h0 n0 ws T' h' cells slots → Wr h h' a (RoadKit.slotOf Z O n d) v' → Go p.tables e below P (T'.setTop (mkF m pc' Ls st))) : Go p.tables e below P (T.setTop (mkF m pc Ls (v :: .ref a :: st))) := by
  obtain ⟨locs, Y, N, eT, O, K, hx, hby, hml, hret, hlk, hown, hnm, hZ⟩ := X
  subst hp
  obtain ⟨T', h', Y', e', W', st'⟩ := putFN Y hx hZ hown w via eT F E (L.imp id fun q => ⟨q.1, q.2.1, hnm.trans q.2.2⟩) wi hty hv hf (g := mkF m pc Ls (v :: .ref a :: st)) rfl rfl (hb hby hd)
  exact Go.go st' (k T' h' ⟨_, Y', Fr.snoc Y' N hn0, e', O.wr W' hn0, K.wr W' hws, hx, hby, hml, hret, hlk, hown, hnm, hZ⟩ W')
theorem o_stC {a : Addr} {ka : ClassId} {n j : Int32} {x y : Int32} {i : Nat} {vs : List Value} {d : Value} (X : Here p l e R s m args below meth c Z bytes maxL ret own nm h0 n0 ws T h cells slots) (F : Arv Z h a ka .char n vs d) (hj : ¬ j < 0 ∧ j < n) (hi : j.toNatClampNeg = i) (hil : i < vs.length) (hv : nar .char x = y) (hd : decode bytes pc = .ok (.castore, 1)) (hp : pc + 1 = pc') (hn0 : n0 ≤ a) (hws : a ∈ ws ∨ h0.size ≤ a)
    (k : ∀ T' h', Here p l e R s m args below meth c Z bytes maxL ret own nm h0 n0 ws T' h' cells slots → (∃ sl w, Wr h h' a sl w) → Arv Z h' a ka .char n (vs.set i (.int y)) d → Go p.tables e below P (T'.setTop (mkF m pc' Ls st))) : Go p.tables e below P (T.setTop (mkF m pc Ls (.int x :: .int j :: .ref a :: st))) := by
  obtain ⟨locs, Y, N, eT, O, K, hx, hby, hml, hret, hlk, hown, hnm, hZ⟩ := X
  subst hp hv
  obtain ⟨cl, A, q1, S, q, H, G⟩ := F
  obtain ⟨T', h', Y', e', W', st'⟩ := RoadKit.stC Y hx hZ eT A (inb_of S hj) (g := mkF m pc Ls (.int x :: .int j :: .ref a :: st)) rfl rfl (hb hby hd)
  exact Go.go st' (k T' h' ⟨_, Y', Fr.snoc Y' N hn0, e', O.wr W' hn0, K.wr W' hws, hx, hby, hml, hret, hlk, hown, hnm, hZ⟩ ⟨_, _, W'⟩ (Arv.set A q1 S q H G (fits_nar_char _) W' i hi hil))
theorem o_stB {a : Addr} {ka : ClassId} {n j : Int32} {x y : Int32} {i : Nat} {vs : List Value} {d : Value} (X : Here p l e R s m args below meth c Z bytes maxL ret own nm h0 n0 ws T h cells slots) (F : Arv Z h a ka .byte n vs d) (hj : ¬ j < 0 ∧ j < n) (hi : j.toNatClampNeg = i) (hil : i < vs.length) (hv : nar .byte x = y) (hd : decode bytes pc = .ok (.bastore, 1)) (hp : pc + 1 = pc') (hn0 : n0 ≤ a) (hws : a ∈ ws ∨ h0.size ≤ a)
    (k : ∀ T' h', Here p l e R s m args below meth c Z bytes maxL ret own nm h0 n0 ws T' h' cells slots → (∃ sl w, Wr h h' a sl w) → Arv Z h' a ka .byte n (vs.set i (.int y)) d → Go p.tables e below P (T'.setTop (mkF m pc' Ls st))) : Go p.tables e below P (T.setTop (mkF m pc Ls (.int x :: .int j :: .ref a :: st))) := by
  obtain ⟨locs, Y, N, eT, O, K, hx, hby, hml, hret, hlk, hown, hnm, hZ⟩ := X
  subst hp hv
  obtain ⟨cl, A, q1, S, q, H, G⟩ := F
  obtain ⟨T', h', Y', e', W', st'⟩ := RoadKit.stB Y hx hZ eT A (inb_of S hj) (g := mkF m pc Ls (.int x :: .int j :: .ref a :: st)) rfl rfl (hb hby hd)
  exact Go.go st' (k T' h' ⟨_, Y', Fr.snoc Y' N hn0, e', O.wr W' hn0, K.wr W' hws, hx, hby, hml, hret, hlk, hown, hnm, hZ⟩ ⟨_, _, W'⟩ (Arv.set A q1 S q H G (fits_nar_byte _) W' i hi hil))
theorem o_stI {a : Addr} {ka : ClassId} {n j : Int32} {x y : Int32} {i : Nat} {vs : List Value} {d : Value} (X : Here p l e R s m args below meth c Z bytes maxL ret own nm h0 n0 ws T h cells slots) (F : Arv Z h a ka .int n vs d) (hj : ¬ j < 0 ∧ j < n) (hi : j.toNatClampNeg = i) (hil : i < vs.length) (hv : x = y) (hd : decode bytes pc = .ok (.iastore, 1)) (hp : pc + 1 = pc') (hn0 : n0 ≤ a) (hws : a ∈ ws ∨ h0.size ≤ a)
    (k : ∀ T' h', Here p l e R s m args below meth c Z bytes maxL ret own nm h0 n0 ws T' h' cells slots → (∃ sl w, Wr h h' a sl w) → Arv Z h' a ka .int n (vs.set i (.int y)) d → Go p.tables e below P (T'.setTop (mkF m pc' Ls st))) : Go p.tables e below P (T.setTop (mkF m pc Ls (.int x :: .int j :: .ref a :: st))) := by
  obtain ⟨locs, Y, N, eT, O, K, hx, hby, hml, hret, hlk, hown, hnm, hZ⟩ := X
  subst hp hv
  obtain ⟨cl, A, q1, S, q, H, G⟩ := F
  obtain ⟨T', h', Y', e', W', st'⟩ := RoadKit.stI Y hx hZ eT A (inb_of S hj) (g := mkF m pc Ls (.int x :: .int j :: .ref a :: st)) rfl rfl (hb hby hd)
  exact Go.go st' (k T' h' ⟨_, Y', Fr.snoc Y' N hn0, e', O.wr W' hn0, K.wr W' hws, hx, hby, hml, hret, hlk, hown, hnm, hZ⟩ ⟨_, _, W'⟩ (Arv.set A q1 S q H G (rfl) W' i hi hil))
theorem o_stJ {a : Addr} {ka : ClassId} {n j : Int32} {x y : Int64} {i : Nat} {vs : List Value} {d : Value} (X : Here p l e R s m args below meth c Z bytes maxL ret own nm h0 n0 ws T h cells slots) (F : Arv Z h a ka .long n vs d) (hj : ¬ j < 0 ∧ j < n) (hi : j.toNatClampNeg = i) (hil : i < vs.length) (hv : x = y) (hd : decode bytes pc = .ok (.lastore, 1)) (hp : pc + 1 = pc') (hn0 : n0 ≤ a) (hws : a ∈ ws ∨ h0.size ≤ a)
    (k : ∀ T' h', Here p l e R s m args below meth c Z bytes maxL ret own nm h0 n0 ws T' h' cells slots → (∃ sl w, Wr h h' a sl w) → Arv Z h' a ka .long n (vs.set i (.long y)) d → Go p.tables e below P (T'.setTop (mkF m pc' Ls st))) : Go p.tables e below P (T.setTop (mkF m pc Ls (.long x :: .int j :: .ref a :: st))) := by
  obtain ⟨locs, Y, N, eT, O, K, hx, hby, hml, hret, hlk, hown, hnm, hZ⟩ := X
  subst hp hv
  obtain ⟨cl, A, q1, S, q, H, G⟩ := F
  obtain ⟨T', h', Y', e', W', st'⟩ := RoadKit.stJ Y hx hZ eT A (inb_of S hj) (g := mkF m pc Ls (.long x :: .int j :: .ref a :: st)) rfl rfl (hb hby hd)
  exact Go.go st' (k T' h' ⟨_, Y', Fr.snoc Y' N hn0, e', O.wr W' hn0, K.wr W' hws, hx, hby, hml, hret, hlk, hown, hnm, hZ⟩ ⟨_, _, W'⟩ (Arv.set A q1 S q H G (rfl) W' i hi hil))
theorem o_stS {a : Addr} {ka : ClassId} {n j : Int32} {x y : Int32} {i : Nat} {vs : List Value} {d : Value} (X : Here p l e R s m args below meth c Z bytes maxL ret own nm h0 n0 ws T h cells slots) (F : Arv Z h a ka .short n vs d) (hj : ¬ j < 0 ∧ j < n) (hi : j.toNatClampNeg = i) (hil : i < vs.length) (hv : nar .short x = y) (hd : decode bytes pc = .ok (.sastore, 1)) (hp : pc + 1 = pc') (hn0 : n0 ≤ a) (hws : a ∈ ws ∨ h0.size ≤ a)
    (k : ∀ T' h', Here p l e R s m args below meth c Z bytes maxL ret own nm h0 n0 ws T' h' cells slots → (∃ sl w, Wr h h' a sl w) → Arv Z h' a ka .short n (vs.set i (.int y)) d → Go p.tables e below P (T'.setTop (mkF m pc' Ls st))) : Go p.tables e below P (T.setTop (mkF m pc Ls (.int x :: .int j :: .ref a :: st))) := by
  obtain ⟨locs, Y, N, eT, O, K, hx, hby, hml, hret, hlk, hown, hnm, hZ⟩ := X
  subst hp hv
  obtain ⟨cl, A, q1, S, q, H, G⟩ := F
  obtain ⟨T', h', Y', e', W', st'⟩ := RoadKit.stS Y hx hZ eT A (inb_of S hj) (g := mkF m pc Ls (.int x :: .int j :: .ref a :: st)) rfl rfl (hb hby hd)
  exact Go.go st' (k T' h' ⟨_, Y', Fr.snoc Y' N hn0, e', O.wr W' hn0, K.wr W' hws, hx, hby, hml, hret, hlk, hown, hnm, hZ⟩ ⟨_, _, W'⟩ (Arv.set A q1 S q H G (fits_nar_short _) W' i hi hil))
theorem o_stZ {a : Addr} {ka : ClassId} {n j : Int32} {x y : Int32} {i : Nat} {vs : List Value} {d : Value} (X : Here p l e R s m args below meth c Z bytes maxL ret own nm h0 n0 ws T h cells slots) (F : Arv Z h a ka .boolean n vs d) (hj : ¬ j < 0 ∧ j < n) (hi : j.toNatClampNeg = i) (hil : i < vs.length) (hv : nar .boolean x = y) (hd : decode bytes pc = .ok (.bastore, 1)) (hp : pc + 1 = pc') (hn0 : n0 ≤ a) (hws : a ∈ ws ∨ h0.size ≤ a)
    (k : ∀ T' h', Here p l e R s m args below meth c Z bytes maxL ret own nm h0 n0 ws T' h' cells slots → (∃ sl w, Wr h h' a sl w) → Arv Z h' a ka .boolean n (vs.set i (.int y)) d → Go p.tables e below P (T'.setTop (mkF m pc' Ls st))) : Go p.tables e below P (T.setTop (mkF m pc Ls (.int x :: .int j :: .ref a :: st))) := by
  obtain ⟨locs, Y, N, eT, O, K, hx, hby, hml, hret, hlk, hown, hnm, hZ⟩ := X
  subst hp hv
  obtain ⟨cl, A, q1, S, q, H, G⟩ := F
  obtain ⟨T', h', Y', e', W', st'⟩ := RoadKit.stZ Y hx hZ eT A (inb_of S hj) (g := mkF m pc Ls (.int x :: .int j :: .ref a :: st)) rfl rfl (hb hby hd)
  exact Go.go st' (k T' h' ⟨_, Y', Fr.snoc Y' N hn0, e', O.wr W' hn0, K.wr W' hws, hx, hby, hml, hret, hlk, hown, hnm, hZ⟩ ⟨_, _, W'⟩ (Arv.set A q1 S q H G (fits_nar_bool _) W' i hi hil))
theorem o_stR {a : Addr} {ka : ClassId} {ty : FieldType} {n j : Int32} {v : Value} {i : Nat} {vs : List Value} {d : Value} (X : Here p l e R s m args below meth c Z bytes maxL ret own nm h0 n0 ws T h cells slots) (F : Arv Z h a ka ty n vs d) (hty : ty.isReference = true) (hSto : Sto Z h a v) (hfit : fits ty v = true) (hj : ¬ j < 0 ∧ j < n) (hi : j.toNatClampNeg = i) (hil : i < vs.length) (hd : decode bytes pc = .ok (.aastore, 1)) (hp : pc + 1 = pc') (hn0 : n0 ≤ a) (hws : a ∈ ws ∨ h0.size ≤ a)
    (k : ∀ T' h', Here p l e R s m args below meth c Z bytes maxL ret own nm h0 n0 ws T' h' cells slots → (∃ sl w, Wr h h' a sl w) → Arv Z h' a ka ty n (vs.set i v) d → Go p.tables e below P (T'.setTop (mkF m pc' Ls st))) : Go p.tables e below P (T.setTop (mkF m pc Ls (v :: .int j :: .ref a :: st))) := by
  obtain ⟨locs, Y, N, eT, O, K, hx, hby, hml, hret, hlk, hown, hnm, hZ⟩ := X
  subst hp
  obtain ⟨cl, A, q1, S, q, H, G⟩ := F
  obtain ⟨T', h', Y', e', W', st'⟩ := RoadKit.stR Y hx hZ eT A (inb_of S hj) hty hSto (g := mkF m pc Ls (v :: .int j :: .ref a :: st)) rfl rfl (hb hby hd)
  exact Go.go st' (k T' h' ⟨_, Y', Fr.snoc Y' N hn0, e', O.wr W' hn0, K.wr W' hws, hx, hby, hml, hret, hlk, hown, hnm, hZ⟩ ⟨_, _, W'⟩ (Arv.set A q1 S q H G hfit W' i hi hil))
theorem o_ldcI {index : Nat} {v : Int32} (X : Here p l e R s m args below meth c Z bytes maxL ret own nm h0 n0 ws T h cells slots) (w : (Cond.constant own index v).before a0 Z = true) (hd : decode bytes pc = .ok (.ldc index, 2)) (hp : pc + 2 = pc')
    (k : Go p.tables e below P (T.setTop (mkF m pc' Ls (.int v :: st)))) : Go p.tables e below P (T.setTop (mkF m pc Ls st)) := by
  obtain ⟨locs, Y, N, eT, O, K, hx, hby, hml, hret, hlk, hown, hnm, hZ⟩ := X
  subst hp
  exact Go.go (Y.ldcInt hx hown (mvT hZ w) (g := mkF m pc Ls st) rfl (hb hby hd)) k
theorem o_ldcL {index : Nat} {v : Int64} (X : Here p l e R s m args below meth c Z bytes maxL ret own nm h0 n0 ws T h cells slots) (w : (Cond.constantLong own index v).before a0 Z = true) (hd : decode bytes pc = .ok (.ldc2_w index, 3)) (hp : pc + 3 = pc')
    (k : Go p.tables e below P (T.setTop (mkF m pc' Ls (.long v :: st)))) : Go p.tables e below P (T.setTop (mkF m pc Ls st)) := by
  obtain ⟨locs, Y, N, eT, O, K, hx, hby, hml, hret, hlk, hown, hnm, hZ⟩ := X
  subst hp
  exact Go.go (Y.ldc2Long hx hown (mvT hZ w) (g := mkF m pc Ls st) rfl (hb hby hd)) k
theorem o_ret  {Po : Option Value → Heap → Prop} (X : Here p l e R s m args below meth c Z bytes maxL ret own nm h0 n0 ws T h cells slots) (hd : decode bytes pc = .ok (.return_, 1)) (hr0 : ret = none) (hc : cells ≤ R.cells) (hs : slots ≤ R.slots) (hQ : Po (none) h) : Go p.tables e below (PO s R h0 n0 ws Po) (T.setTop (mkF m pc Ls [])) := by
  obtain ⟨locs, Y, N, eT, O, K, hx, hby, hml, hret, hlk, hown, hnm, hZ⟩ := X
  obtain ⟨fs, hr, hrun, hended, hW, hsame⟩ := Y.leave (v := none) (fun _ => rfl) hlk
  refine ⟨_, _, ?_, hrun, hended, _, _, rfl, ⟨N, ?_, ?_⟩, ⟨_, rfl⟩, hW, hsame.mono hc hs⟩
  · exact Y.returnOut hx (hret.trans hr0) (hb hby hd) hr
  · show Keep h0 T.heap ws
    rw [eT]; exact K
  · show Po _ T.heap
    rw [eT]; exact hQ
theorem o_iret {z : Int32} {Po : Option Value → Heap → Prop} (X : Here p l e R s m args below meth c Z bytes maxL ret own nm h0 n0 ws T h cells slots) (hd : decode bytes pc = .ok (.ireturn, 1)) (hr0 : ret = some .int) (hc : cells ≤ R.cells) (hs : slots ≤ R.slots) (hQ : Po (some (.int z)) h) : Go p.tables e below (PO s R h0 n0 ws Po) (T.setTop (mkF m pc Ls (.int z :: rest))) := by
  obtain ⟨locs, Y, N, eT, O, K, hx, hby, hml, hret, hlk, hown, hnm, hZ⟩ := X
  obtain ⟨fs, hr, hrun, hended, hW, hsame⟩ := Y.leave (v := some (.int z)) (fun h => by rw [hret, hr0] at h; cases h) hlk
  refine ⟨_, _, ?_, hrun, hended, _, _, rfl, ⟨N, ?_, ?_⟩, ⟨_, rfl⟩, hW, hsame.mono hc hs⟩
  · exact retOut Y hx (hret.trans hr0) rfl (Or.inl ⟨rfl, Or.inl rfl, _, rfl⟩) (hb hby hd) hr
  · show Keep h0 T.heap ws
    rw [eT]; exact K
  · show Po _ T.heap
    rw [eT]; exact hQ
theorem o_nret {z y : Int32} {t : FieldType} {Po : Option Value → Heap → Prop} (X : Here p l e R s m args below meth c Z bytes maxL ret own nm h0 n0 ws T h cells slots) (hd : decode bytes pc = .ok (.ireturn, 1)) (hr0 : ret = some t) (hv : nar t z = y) (ht : t = .boolean ∨ t = .byte ∨ t = .char ∨ t = .short) (hc : cells ≤ R.cells) (hs : slots ≤ R.slots) (hQ : Po (some (.int y)) h) : Go p.tables e below (PO s R h0 n0 ws Po) (T.setTop (mkF m pc Ls (.int z :: rest))) := by
  obtain ⟨locs, Y, N, eT, O, K, hx, hby, hml, hret, hlk, hown, hnm, hZ⟩ := X
  obtain ⟨fs, hr, hrun, hended, hW, hsame⟩ := Y.leave (v := some (.int y)) (fun h => by rw [hret, hr0] at h; cases h) hlk
  refine ⟨_, _, ?_, hrun, hended, _, _, rfl, ⟨N, ?_, ?_⟩, ⟨_, rfl⟩, hW, hsame.mono hc hs⟩
  · subst hv; exact retN Y hx (hret.trans hr0) ht (hb hby hd) hr
  · show Keep h0 T.heap ws
    rw [eT]; exact K
  · show Po _ T.heap
    rw [eT]; exact hQ
theorem o_lret {z : Int64} {Po : Option Value → Heap → Prop} (X : Here p l e R s m args below meth c Z bytes maxL ret own nm h0 n0 ws T h cells slots) (hd : decode bytes pc = .ok (.lreturn, 1)) (hr0 : ret = some .long) (hc : cells ≤ R.cells) (hs : slots ≤ R.slots) (hQ : Po (some (.long z)) h) : Go p.tables e below (PO s R h0 n0 ws Po) (T.setTop (mkF m pc Ls (.long z :: rest))) := by
  obtain ⟨locs, Y, N, eT, O, K, hx, hby, hml, hret, hlk, hown, hnm, hZ⟩ := X
  obtain ⟨fs, hr, hrun, hended, hW, hsame⟩ := Y.leave (v := some (.long z)) (fun h => by rw [hret, hr0] at h; cases h) hlk
  refine ⟨_, _, ?_, hrun, hended, _, _, rfl, ⟨N, ?_, ?_⟩, ⟨_, rfl⟩, hW, hsame.mono hc hs⟩
  · exact retOut Y hx (hret.trans hr0) rfl (Or.inr (Or.inl ⟨rfl, rfl, _, rfl⟩)) (hb hby hd) hr
  · show Keep h0 T.heap ws
    rw [eT]; exact K
  · show Po _ T.heap
    rw [eT]; exact hQ
theorem o_aret {w : Value} {t : FieldType} {Po : Option Value → Heap → Prop} (X : Here p l e R s m args below meth c Z bytes maxL ret own nm h0 n0 ws T h cells slots) (hd : decode bytes pc = .ok (.areturn, 1)) (hr0 : ret = some t) (ht : t.isReference = true) (hw : w.isRef = true) (hc : cells ≤ R.cells) (hs : slots ≤ R.slots) (hQ : Po (some w) h) : Go p.tables e below (PO s R h0 n0 ws Po) (T.setTop (mkF m pc Ls (w :: rest))) := by
  obtain ⟨locs, Y, N, eT, O, K, hx, hby, hml, hret, hlk, hown, hnm, hZ⟩ := X
  obtain ⟨fs, hr, hrun, hended, hW, hsame⟩ := Y.leave (v := some w) (fun h => by rw [hret, hr0] at h; cases h) hlk
  refine ⟨_, _, ?_, hrun, hended, _, _, rfl, ⟨N, ?_, ?_⟩, ⟨_, rfl⟩, hW, hsame.mono hc hs⟩
  · exact retOut Y hx (hret.trans hr0) (by rcases ref_cases hw with rfl | ⟨a, rfl⟩ <;> cases t <;> first | rfl | cases ht) (Or.inr (Or.inr (Or.inr (Or.inr ⟨rfl, ht, hw⟩)))) (hb hby hd) hr
  · show Keep h0 T.heap ws
    rw [eT]; exact K
  · show Po _ T.heap
    rw [eT]; exact hQ
theorem o_static {index : Nat} {y : MethodName} {bytes' : ByteArray} {maxL' : Nat} {ret' : Option FieldType} {W kc ks : Nat} {Q : Option Value → Heap → List Loc → Prop} {ws' : List Addr} {argsL : List Value} (X : Here p l e R s m args below meth c Z bytes maxL ret own nm h0 n0 ws T h cells slots) (w1 : (Cond.methodLink own index y).before a0 Z = true) (w2 : (Cond.static y).before a0 Z = true) (w3 : (Cond.initialized y.cls).before a0 Z = true) (w4 : (Cond.code y bytes' maxL' ret').before a0 Z = true) (hy : y.cls ≠ "java/lang/invoke/MethodHandle" ∧ y.cls ≠ "java/lang/invoke/VarHandle") (hlen : ∀ sig, parseMethodDescriptor y.desc = some sig → argsL.length = sig.parameters.length) (hK : Back l R p e below s args y 3 W (fun A a => a = argsL.toArray ∧ A.U.heap = h ∧ A.cells + kc ≤ R.cells ∧ A.slots + ks ≤ R.slots) (fun A _ v B => ∃ L, Q v B.U.heap L ∧ B.locs = A.locs ++ L ∧ B.cells = A.cells + kc ∧ B.slots = A.slots + ks)) (hd : decode bytes pc = .ok (.invokestatic index, 3)) (hp : pc + 3 = pc') (hsz : Ls.size = maxL) (hstk : st = argsL.reverse ++ rest) (hW : (rest.map fun v => v.category).sum ≤ W) (hc : cells + kc ≤ R.cells) (hs : slots + ks ≤ R.slots) (hQ : ∀ v h' L, Q v h' L → Fr n0 L ∧ Keep h h' ws') (hws : ∀ x ∈ ws', n0 ≤ x ∧ (x ∈ ws ∨ h0.size ≤ x))
    (k : ∀ v T' h' L, Here p l e R s m args below meth c Z bytes maxL ret own nm h0 n0 ws T' h' (cells + kc) (slots + ks) → Q v h' L → Keep h h' ws' → Go p.tables e below P (T'.setTop (mkF m pc' Ls (v.toList ++ rest)))) : Go p.tables e below P (T.setTop (mkF m pc Ls st)) := by
  obtain ⟨locs, Y, N, eT, O, K, hx, hby, hml, hret, hlk, hown, hnm, hZ⟩ := X
  subst hp hstk
  obtain ⟨v, vm₁, ⟨T', L', k', n'⟩, -, X', ⟨L, hq, l', y', z'⟩, st'⟩ := Jvm.LawKit.callS Y hx hown (mvT hZ w1) (mvT hZ w2) (mvT hZ w3) (mvT hZ w4) hy hK (g := mkF m pc Ls (argsL.reverse ++ rest)) rfl (by rw [hml]; exact hsz) (argsL := argsL) (rest := rest) hlen rfl (by show 2 * 0 + _ ≤ _; omega) (hb hby hd) (fun _ _ => ⟨rfl, eT, hc, hs⟩)
  dsimp only [Pt.U, Pt.locs, Pt.cells, Pt.slots] at X' l' y' z' st' hq
  subst l' y' z'
  obtain ⟨f1, f2⟩ := hQ _ _ _ hq
  exact Go.go st' (k v T' _ L ⟨_, X', N.app f1, rfl, O.keep f2 (fun x hx => (hws x hx).1), K.trans f2 (fun x hx => (hws x hx).2), hx, hby, hml, hret, hlk, hown, hnm, hZ⟩ hq f2)
theorem o_special {index : Nat} {y : MethodName} {bytes' : ByteArray} {maxL' : Nat} {b : Addr} {W kc ks : Nat} {Q : Option Value → Heap → List Loc → Prop} {ws' : List Addr} {argsL : List Value} (X : Here p l e R s m args below meth c Z bytes maxL ret own nm h0 n0 ws T h cells slots) (hy1 : y.name = "<init>") (w1 : (Cond.methodLink own index y).before a0 Z = true) (w2 : (Cond.instanceMethod y).before a0 Z = true) (w4 : (Cond.code y bytes' maxL' none).before a0 Z = true) (hy : y.cls ≠ "java/lang/invoke/MethodHandle" ∧ y.cls ≠ "java/lang/invoke/VarHandle") (hlen : ∀ sig, parseMethodDescriptor y.desc = some sig → argsL.length = sig.parameters.length) (hK : Back l R p e below s args y 3 W (fun A a => a = (.ref b :: argsL).toArray ∧ A.U.heap = h ∧ A.cells + kc ≤ R.cells ∧ A.slots + ks ≤ R.slots) (fun A _ v B => ∃ L, Q v B.U.heap L ∧ B.locs = A.locs ++ L ∧ B.cells = A.cells + kc ∧ B.slots = A.slots + ks)) (hd : decode bytes pc = .ok (.invokespecial index, 3)) (hp : pc + 3 = pc') (hsz : Ls.size = maxL) (hstk : st = argsL.reverse ++ .ref b :: rest) (hW : (rest.map fun v => v.category).sum ≤ W) (hc : cells + kc ≤ R.cells) (hs : slots + ks ≤ R.slots) (hQ : ∀ v h' L, Q v h' L → Fr n0 L ∧ Keep h h' ws') (hws : ∀ x ∈ ws', n0 ≤ x ∧ (x ∈ ws ∨ h0.size ≤ x))
    (k : ∀ v T' h' L, Here p l e R s m args below meth c Z bytes maxL ret own nm h0 n0 ws T' h' (cells + kc) (slots + ks) → Q v h' L → Keep h h' ws' → Go p.tables e below P (T'.setTop (mkF m pc' Ls (v.toList ++ rest)))) : Go p.tables e below P (T.setTop (mkF m pc Ls st)) := by
  obtain ⟨locs, Y, N, eT, O, K, hx, hby, hml, hret, hlk, hown, hnm, hZ⟩ := X
  subst hp hstk
  obtain ⟨v, vm₁, ⟨T', L', k', n'⟩, -, X', ⟨L, hq, l', y', z'⟩, st'⟩ := Y.specialBack hx hy1 hown (mvT hZ w1) (mvT hZ w2) (mvT hZ w4) hy hK (g := mkF m pc Ls (argsL.reverse ++ .ref b :: rest)) rfl (by rw [hml]; exact hsz) (Steps.refl _) (a := b) (argsL := argsL) (rest := rest) hlen rfl (by show 2 * 0 + _ ≤ _; omega) (hb hby hd) (fun _ _ => ⟨rfl, eT, hc, hs⟩)
  dsimp only [Pt.U, Pt.locs, Pt.cells, Pt.slots] at X' l' y' z' st' hq
  subst l' y' z'
  obtain ⟨f1, f2⟩ := hQ _ _ _ hq
  exact Go.go (fun t q => st'.trans q) (k v T' _ L ⟨_, X', N.app f1, rfl, O.keep f2 (fun x hx => (hws x hx).1), K.trans f2 (fun x hx => (hws x hx).2), hx, hby, hml, hret, hlk, hown, hnm, hZ⟩ hq f2)
theorem o_virtual {index : Nat} {C : String} {y z : MethodName} {b : Addr} {W kc ks : Nat} {Q : Option Value → Heap → List Loc → Prop} {ws' : List Addr} {argsL : List Value} (X : Here p l e R s m args below meth c Z bytes maxL ret own nm h0 n0 ws T h cells slots) (E : Exa Z h b C) (w1 : (Cond.methodLink own index y).before a0 Z = true) (w2 : (Cond.declares y).before a0 Z = true) (w3 : (Cond.selects C y z).before a0 Z = true) (w4 : (Cond.instanceMethod z).before a0 Z = true) (nf : ∀ s' : State, Z.Warmed39 s'.vm → NotFace s' y) (hy : y.cls ≠ "java/lang/invoke/MethodHandle" ∧ y.cls ≠ "java/lang/invoke/VarHandle") (hlen : ∀ sig, parseMethodDescriptor y.desc = some sig → argsL.length = sig.parameters.length) (hK : Back l R p e below s args z 3 W (fun A a => a = (.ref b :: argsL).toArray ∧ A.U.heap = h ∧ A.cells + kc ≤ R.cells ∧ A.slots + ks ≤ R.slots) (fun A _ v B => ∃ L, Q v B.U.heap L ∧ B.locs = A.locs ++ L ∧ B.cells = A.cells + kc ∧ B.slots = A.slots + ks)) (hd : decode bytes pc = .ok (.invokevirtual index, 3)) (hp : pc + 3 = pc') (hsz : Ls.size = maxL) (hstk : st = argsL.reverse ++ .ref b :: rest) (hW : (rest.map fun v => v.category).sum ≤ W) (hc : cells + kc ≤ R.cells) (hs : slots + ks ≤ R.slots) (hQ : ∀ v h' L, Q v h' L → Fr n0 L ∧ Keep h h' ws') (hws : ∀ x ∈ ws', n0 ≤ x ∧ (x ∈ ws ∨ h0.size ≤ x))
    (k : ∀ v T' h' L, Here p l e R s m args below meth c Z bytes maxL ret own nm h0 n0 ws T' h' (cells + kc) (slots + ks) → Q v h' L → Keep h h' ws' → Go p.tables e below P (T'.setTop (mkF m pc' Ls (v.toList ++ rest)))) : Go p.tables e below P (T.setTop (mkF m pc Ls st)) := by
  obtain ⟨locs, Y, N, eT, O, K, hx, hby, hml, hret, hlk, hown, hnm, hZ⟩ := X
  obtain ⟨cq, kq, qa, qb, qc⟩ := isOf hZ eT E
  subst hp hstk
  obtain ⟨v, vm₁, ⟨T', L', k', n'⟩, -, X', ⟨L, hq, l', y', z'⟩, st'⟩ := (Y.virtualBack hx (y := y) (z := z) hown (mvT hZ w1) (mvT hZ w2) (nf _ hZ) (mvT hZ w3) (mvT hZ w4) hy hK qa qc (g := mkF m pc Ls (argsL.reverse ++ .ref b :: rest)) rfl (by rw [hml]; exact hsz) (Steps.refl _) (argsL := argsL) (rest := rest) hlen rfl (by show 2 * 0 + _ ≤ _; omega) (hb hby hd) (fun _ _ => ⟨rfl, eT, hc, hs⟩))
  dsimp only [Pt.U, Pt.locs, Pt.cells, Pt.slots] at X' l' y' z' st' hq
  subst l' y' z'
  obtain ⟨f1, f2⟩ := hQ _ _ _ hq
  exact Go.go (fun t q => st'.trans q) (k v T' _ L ⟨_, X', N.app f1, rfl, O.keep f2 (fun x hx => (hws x hx).1), K.trans f2 (fun x hx => (hws x hx).2), hx, hby, hml, hret, hlk, hown, hnm, hZ⟩ hq f2)
theorem o_iface {index count : Nat} {C : String} {y z : MethodName} {b : Addr} {W kc ks : Nat} {Q : Option Value → Heap → List Loc → Prop} {ws' : List Addr} {argsL : List Value} (X : Here p l e R s m args below meth c Z bytes maxL ret own nm h0 n0 ws T h cells slots) (E : Exa Z h b C) (w1 : (Cond.methodLink own index y).before a0 Z = true) (w2 : (Cond.declares y).before a0 Z = true) (w3 : (Cond.interfaceMethod y.cls y.cls y.name y.desc).before a0 Z = true) (w4 : (Cond.selects C y z).before a0 Z = true) (w5 : (Cond.instanceMethod z).before a0 Z = true) (w6 : (Cond.publicMethod z).before a0 Z = true) (w7 : (Cond.unhidden C y.name y.desc).before a0 Z = true) (w8 : (Cond.castable C y.cls).before a0 Z = true) (hd3 : ((Cond.interfaceMethod y.cls y.cls y.name y.desc).onTables && (Cond.interfaceMethod y.cls y.cls y.name y.desc).keepsFace) = true) (hy : y.cls ≠ "java/lang/invoke/MethodHandle" ∧ y.cls ≠ "java/lang/invoke/VarHandle") (hlen : ∀ sig, parseMethodDescriptor y.desc = some sig → argsL.length = sig.parameters.length) (hK : Back l R p e below s args z 5 W (fun A a => a = (.ref b :: argsL).toArray ∧ A.U.heap = h ∧ A.cells + kc ≤ R.cells ∧ A.slots + ks ≤ R.slots) (fun A _ v B => ∃ L, Q v B.U.heap L ∧ B.locs = A.locs ++ L ∧ B.cells = A.cells + kc ∧ B.slots = A.slots + ks)) (hd : decode bytes pc = .ok (.invokeinterface index count, 5)) (hp : pc + 5 = pc') (hsz : Ls.size = maxL) (hstk : st = argsL.reverse ++ .ref b :: rest) (hW : (rest.map fun v => v.category).sum ≤ W) (hc : cells + kc ≤ R.cells) (hs : slots + ks ≤ R.slots) (hQ : ∀ v h' L, Q v h' L → Fr n0 L ∧ Keep h h' ws') (hws : ∀ x ∈ ws', n0 ≤ x ∧ (x ∈ ws ∨ h0.size ≤ x))
    (k : ∀ v T' h' L, Here p l e R s m args below meth c Z bytes maxL ret own nm h0 n0 ws T' h' (cells + kc) (slots + ks) → Q v h' L → Keep h h' ws' → Go p.tables e below P (T'.setTop (mkF m pc' Ls (v.toList ++ rest)))) : Go p.tables e below P (T.setTop (mkF m pc Ls st)) := by
  obtain ⟨locs, Y, N, eT, O, K, hx, hby, hml, hret, hlk, hown, hnm, hZ⟩ := X
  obtain ⟨cq, kq, qa, qb, qc⟩ := isOf hZ eT E
  subst hp hstk
  obtain ⟨v, vm₁, ⟨T', L', k', n'⟩, -, X', ⟨L, hq, l', y', z'⟩, st'⟩ := (Y.interfaceBack hx (xi := y) (y := z) hown (mvT hZ w1) (mvT hZ w2) (mvT hZ w3 hd3) (mvT hZ w4) (mvT hZ w5) (mvT hZ w6) (mvT hZ w7) (mvT hZ w8) hy hK qa qb qc (g := mkF m pc Ls (argsL.reverse ++ .ref b :: rest)) rfl (by rw [hml]; exact hsz) (Steps.refl _) (argsL := argsL) (rest := rest) hlen rfl (by show 2 * 0 + _ ≤ _; omega) (hb hby hd) (fun _ _ => ⟨rfl, eT, hc, hs⟩))
  dsimp only [Pt.U, Pt.locs, Pt.cells, Pt.slots] at X' l' y' z' st' hq
  subst l' y' z'
  obtain ⟨f1, f2⟩ := hQ _ _ _ hq
  exact Go.go (fun t q => st'.trans q) (k v T' _ L ⟨_, X', N.app f1, rfl, O.keep f2 (fun x hx => (hws x hx).1), K.trans f2 (fun x hx => (hws x hx).2), hx, hby, hml, hret, hlk, hown, hnm, hZ⟩ hq f2)
theorem back_met {y : MethodName} {bytes' : ByteArray} {maxL' : Nat} {ret' : Option FieldType} {rm : Room} {len W : Nat} {as' : Array Value} {ws' : List Addr} {Po : Option Value → Heap → Prop} (hM : Met l y bytes' maxL' ret' [] rm Z as' h n0 ws' Po) (X : Here p l e R s m args below meth c Z bytes maxL ret own nm h0 n0 ws T h cells slots) (wc : (Cond.code y bytes' maxL' ret').before a0 Z = true) (wz : (Cond.initialized y.cls).before a0 Z = true) (hf : rm.frames + 1 ≤ R.frames) (hl : W + (maxL' + 11) + rm.locals ≤ R.locals) :
    Back l R p e below s args y len W (fun A a => a = as' ∧ A.U.heap = h ∧ A.cells + rm.cells ≤ R.cells ∧ A.slots + rm.slots ≤ R.slots) (fun A _ v B => ∃ L, QQ h n0 ws' Po v B.U.heap L ∧ B.locs = A.locs ++ L ∧ B.cells = A.cells + rm.cells ∧ B.slots = A.slots + rm.slots) := backOf hM X.zv wc wz hf hl
theorem nf_sel {C : String} {y : MethodName} (w : (Cond.selects C y y).before a0 Z = true) : ∀ s' : State, Z.Warmed39 s'.vm → NotFace s' y := fun s' hz => notFace_of_selects (args := #[]) (mvT hz w)
theorem qq_fr {ws' : List Addr} {Po : Option Value → Heap → Prop} : ∀ v h' L, QQ h n0 ws' Po v h' L → Fr n0 L ∧ Keep h h' ws' := fun _ _ _ q => ⟨q.1, q.2.1⟩
end Kit
end Jvm.OwnKit

namespace Jvm.OwnKit
open Sem ClassFile Op Lib Jvm.Stand Jvm.Free Jvm.LawKit Jvm.RoadKit
section Common
variable {Z : State} {h : Heap} {a0 : Array Value}
theorem own_ne {a b : Nat} (h : a < b ∨ b < a) : a ≠ b := fun q => by omega
theorem own_nsRoot {O K : String} {n : Nat} (w : (Cond.noSuperclass O).before a0 Z = true) (wk : (Cond.instantiable K n).before a0 Z = true) (hn : O ≠ K) : NS Z O K := by
  obtain ⟨c, k, h1, h2, h3, -, -⟩ := Cond.noSuperclass_spec w
  obtain ⟨t, kt, g1, -⟩ := Cond.instantiable_spec wk
  have ne := ids_ne h1 g1 hn
  refine ⟨c, t, h1, g1, fun fuel => ?_⟩
  cases fuel with
  | zero => rfl
  | succ f => simp [Vm.isSubclassAux, ne, h2, h3]
theorem own_nsNo {C S K : String} {n : Nat} (w : (Cond.superclass C S).before a0 Z = true) (wk : (Cond.instantiable K n).before a0 Z = true) (q : NS Z C K) (hn : C ≠ K) : ∃ c t, Z.vm.findClass C = some c ∧ Z.vm.findClass K = some t ∧ Z.vm.assignable c t = false := by
  obtain ⟨c, t, h0, g0, n3⟩ := q
  obtain ⟨p, k, kp, h1, h2, h3, h4, h5, -, h7⟩ := Cond.superclass_spec h0 w
  obtain ⟨t', kt, g1, g2, g3, g4, -⟩ := Cond.instantiable_spec wk
  cases g0.symm.trans g1
  have g7 : kt.isInterface = false := by cases hi : kt.isInterface <;> simp [hi] at g4 ⊢
  have ne := ids_ne h0 g0 hn
  refine ⟨c, t, h0, g0, ?_⟩
  show Z.vm.assignableAux (255 + 1) c t = false
  simp [Vm.assignableAux, ne, h2, g2, h5, g3, g7, Vm.isSubclass, n3]
theorem own_nfI {y : MethodName} {n : Nat} (w : (Cond.instantiable y.cls n).before a0 Z = true) : ∀ s' : State, Z.Warmed39 s'.vm → NotFace s' y := fun s' hz r0 hn => by
  have w' : (Cond.instantiable y.cls n).before #[] s' = true := mvT hz w
  obtain ⟨c, k, g1, g2, -, g4, -⟩ := Cond.instantiable_spec w'
  have q := findClass_of_methodNamed hn
  cases g1.symm.trans q
  exact ⟨k, g2, by cases hi : k.isInterface <;> simp [hi] at g4 ⊢⟩
theorem own_notIns {a : Addr} {C K : String} {ty : FieldType} (E : Exa Z h a C) (w : (Cond.arrayClass ty).before a0 Z = true) (hK : "[" ++ ty.toString = K) (q : ¬ Ins Z h a K true) : ∃ c t, Z.vm.findClass C = some c ∧ Z.vm.findClass K = some t ∧ Z.vm.assignable c t = false := by
  subst hK
  obtain ⟨cell, k, h1, h2, h3, h4, -⟩ := E
  obtain ⟨t, kt, comp, g1, -⟩ := Cond.arrayClass_spec w
  refine ⟨cell.cls, t, h2, g1, ?_⟩
  cases hb : Z.vm.assignable cell.cls t with
  | false => rfl
  | true => exact absurd ⟨cell, t, h1, g1, by simp [h4, hb]⟩ q
theorem own_c255 (x c : Int32) (e : (x &&& (255 : Int32)).toUInt32.toUInt16.toUInt32.toInt32 = c) : ¬ c < 0 ∧ ¬ (255 : Int32) < c := by
  subst e
  have t : ∀ k : Fin 256, ¬ ((Int32.ofNat k.val).toUInt32.toUInt16.toUInt32.toInt32) < 0 ∧ ¬ (255 : Int32) < ((Int32.ofNat k.val).toUInt32.toUInt16.toUInt32.toInt32) := by decide +kernel
  have h : (x &&& 255).toBitVec.toNat < 256 := by
    simp only [Int32.toBitVec_and, BitVec.toNat_and]
    exact Nat.lt_succ_of_le Nat.and_le_right
  have e : (x &&& 255) = Int32.ofNat (x &&& 255).toBitVec.toNat := by
    apply Int32.toBitVec_inj.mp
    show _ = BitVec.ofNat 32 _
    rw [BitVec.ofNat_toNat]; simp
  rw [e]
  exact t ⟨_, h⟩
theorem own_narC {c : Int32} (r : ¬ c < 0 ∧ ¬ (255 : Int32) < c) : nar .char c = c := by
  have t : ∀ k : Fin 256, nar .char (Int32.ofNat k.val) = Int32.ofNat k.val := by decide +kernel
  have h1 : 0 ≤ c.toInt := by have q := r.1; rw [Int32.lt_iff_toInt_lt] at q; have e : (0 : Int32).toInt = 0 := rfl; omega
  have h2 : c.toInt ≤ 255 := by have q := r.2; rw [Int32.lt_iff_toInt_lt] at q; have e : (255 : Int32).toInt = 255 := rfl; omega
  have e : c = Int32.ofNat c.toInt.toNat := by
    apply Int32.toInt_inj.mp
    rw [Int32.toInt_ofNat_of_lt (by omega)]
    omega
  rw [e]
  exact t ⟨c.toInt.toNat, by omega⟩
theorem own_narB (x : Int32) : nar .byte (x.toInt8.toInt32) = x.toInt8.toInt32 := by simp [nar]
theorem own_up (cs : List Int32) (h : ∀ c ∈ cs, ¬ c < 0 ∧ ¬ (255 : Int32) < c) : ∀ c ∈ cs, ¬ c < 0 ∧ ¬ (65535 : Int32) < c := fun c hc => ⟨(h c hc).1, fun q => (h c hc).2 (by rw [Int32.lt_iff_toInt_lt] at q ⊢; have e1 : (65535 : Int32).toInt = 65535 := rfl; have e2 : (255 : Int32).toInt = 255 := rfl; omega)⟩
theorem own_place (x : Int32) (h1 : ¬ x < (-128 : Int32)) (h2 : ¬ (127 : Int32) < x) : (¬ (x + (128 : Int32)) < 0 ∧ (x + (128 : Int32)) < (256 : Int32)) ∧ (x + (128 : Int32)).toNatClampNeg < 256 := by
  have q := Jvm.Free.IntBox.place_ok x h1 h2
  refine ⟨⟨fun z => q.1 (Or.inl z), ?_⟩, q.2⟩
  have h := q.2
  rw [Int32.lt_iff_toInt_lt]
  have e : (256 : Int32).toInt = 256 := rfl
  simp only [Int32.toNatClampNeg] at h
  omega
theorem own_allC {c : Int32} {cs : List Int32} {P : Int32 → Prop} (h : P c) (r : ∀ d ∈ cs, P d) : ∀ d ∈ c :: cs, P d := fun d q => (List.mem_cons.mp q).elim (fun u => u ▸ h) (r d)
theorem own_icache {args : Array Value} {s : State} (hf : Fit s) (wI : (Cond.initialized "java/lang/Integer$IntegerCache").before args s = true) (w2 : (Cond.initializedFor "java/lang/Integer$IntegerCache" "high" "I").before args s = true) (w3 : (Cond.laysStatic "java/lang/Integer$IntegerCache" "cache" "[Ljava/lang/Integer;").before args s = true)
    (w4 : (Cond.eq (Term.static "java/lang/Integer$IntegerCache" "high" "I") (Term.int 127)).before args s = true) (w5 : (Cond.arrayOf (Term.static "java/lang/Integer$IntegerCache" "cache" "[Ljava/lang/Integer;") (.object "java/lang/Integer")).before args s = true)
    (w6 : (Cond.eq (Term.length (Term.static "java/lang/Integer$IntegerCache" "cache" "[Ljava/lang/Integer;")) (Term.int 256)).before args s = true)
    (w7 : (Cond.all (Term.static "java/lang/Integer$IntegerCache" "cache" "[Ljava/lang/Integer;") (Cond.and (Cond.exactly (Term.elem (Term.static "java/lang/Integer$IntegerCache" "cache" "[Ljava/lang/Integer;") (Term.index 0)) "java/lang/Integer") (Cond.eq (Term.field (Term.elem (Term.static "java/lang/Integer$IntegerCache" "cache" "[Ljava/lang/Integer;") (Term.index 0)) "java/lang/Integer" "value" "I") (Term.sub (Term.index 0) (Term.int 128))))).before args s = true) :
    ∃ (ca : Addr) (kca : ClassId) (cvs : List Value), Sta s s.heap "java/lang/Integer$IntegerCache" "high" "I" (.int (127 : Int32)) ∧ Sta s s.heap "java/lang/Integer$IntegerCache" "cache" "[Ljava/lang/Integer;" (.ref ca) ∧ Arv s s.heap ca kca (.object "java/lang/Integer") (256 : Int32) cvs .null ∧ ∀ i, i < 256 → ∃ r, cvs.getD i .null = .ref r ∧ Exa s s.heap r "java/lang/Integer" := by
  have eh := Cond.eq_int (show (Cond.eq (Term.static "java/lang/Integer$IntegerCache" "high" "I") (.int 127)).holds args s none s [] = true from w4) (rfl : (Term.int 127).eval args s none [] s = some (.int 127))
  obtain ⟨v, ev, -⟩ := static_fit hf w3 (ty := .array (.object "java/lang/Integer")) (by decide)
  obtain ⟨a, cell, rfl, hA, harr, hvm⟩ := Jvm.Free.IntBox.arrayOf_fwd w5 ev
  have hat := Jvm.Free.IntBox.arrayAt_of hA harr hvm
  obtain ⟨hsz, hsize⟩ := Jvm.Free.IntBox.length_fwd w6 ev hA harr hvm
  have h256 : cell.slots.size = 256 := by
    have e : (cell.slots.size.toInt32).toInt = cell.slots.size := by
      have : (cell.slots.size.toInt32).toInt = (cell.slots.size : Int).bmod (2 ^ 32) := by simp [Nat.toInt32, Int32.size]
      rw [this]; simp [Int.bmod]; omega
    rw [hsize] at e
    have : ((256 : Int32)).toInt = 256 := by decide
    omega
  have hall := Cond.all_elim ev hat (Cond.before_iff.mp w7)
  have hel : ∀ i, i < 256 → ∃ r, cell.slots[i]? = some (.ref r) ∧ Exa s s.heap r "java/lang/Integer" := fun i hi => by
    obtain ⟨q1, -⟩ := and_e (hall i (by rw [h256]; exact hi))
    obtain ⟨r, er⟩ := exa_v q1
    refine ⟨r, ?_, exa_at er q1⟩
    have evi : (Term.static "java/lang/Integer$IntegerCache" "cache" "[Ljava/lang/Integer;").eval args s none [i] s = some (.ref a) := ev
    obtain ⟨hnn, hback⟩ := Jvm.Free.IntBox.place_nonneg i hi
    have e2 : ∀ t : Term, t.eval args s none [i] s = some (.ref a) → (Term.elem t (.index 0)).eval args s none [i] s = cell.slots[i]? := fun t ht => by
      simp [Term.eval, ht, hnn, hat, hback]
    rw [← e2 _ evi]; exact er
  refine ⟨a, cell.cls, cell.slots.toList, Sta.start eh (Or.inl w2), Sta.start ev (Or.inr ⟨wI, w3⟩), ⟨cell, ⟨hA, harr, hvm⟩, rfl, by rw [h256]; decide, by decide, fun k hk => ?_, fun k hk => ?_⟩, fun i hi => ?_⟩
  · rw [List.getD_eq_getElem?_getD, Array.getElem?_toList, Array.getElem?_eq_getElem hk]; rfl
  · obtain ⟨r, e, -⟩ := hel k (by rw [← h256]; exact hk)
    rw [List.getD_eq_getElem?_getD, Array.getElem?_toList, e]; rfl
  · obtain ⟨r, e, E⟩ := hel i hi
    exact ⟨r, by rw [List.getD_eq_getElem?_getD, Array.getElem?_toList, e]; rfl, E⟩
theorem own_lcache {args : Array Value} {s : State} (hf : Fit s) (wI : (Cond.initialized "java/lang/Long$LongCache").before args s = true) (w3 : (Cond.laysStatic "java/lang/Long$LongCache" "cache" "[Ljava/lang/Long;").before args s = true)
    (w5 : (Cond.arrayOf (Term.static "java/lang/Long$LongCache" "cache" "[Ljava/lang/Long;") (.object "java/lang/Long")).before args s = true)
    (w6 : (Cond.eq (Term.length (Term.static "java/lang/Long$LongCache" "cache" "[Ljava/lang/Long;")) (Term.int 256)).before args s = true)
    (w7 : (Cond.all (Term.static "java/lang/Long$LongCache" "cache" "[Ljava/lang/Long;") (Cond.and (Cond.exactly (Term.elem (Term.static "java/lang/Long$LongCache" "cache" "[Ljava/lang/Long;") (Term.index 0)) "java/lang/Long") (Cond.eq (Term.field (Term.elem (Term.static "java/lang/Long$LongCache" "cache" "[Ljava/lang/Long;") (Term.index 0)) "java/lang/Long" "value" "J") (Term.op1 Unary.i2l (Term.sub (Term.index 0) (Term.int 128)))))).before args s = true) :
    ∃ (ca : Addr) (kca : ClassId) (cvs : List Value), Sta s s.heap "java/lang/Long$LongCache" "cache" "[Ljava/lang/Long;" (.ref ca) ∧ Arv s s.heap ca kca (.object "java/lang/Long") (256 : Int32) cvs .null ∧ ∀ i, i < 256 → ∃ r, cvs.getD i .null = .ref r ∧ Exa s s.heap r "java/lang/Long" := by
  obtain ⟨v, ev, -⟩ := static_fit hf w3 (ty := .array (.object "java/lang/Long")) (by decide)
  obtain ⟨a, cell, rfl, hA, harr, hvm⟩ := Jvm.Free.IntBox.arrayOf_fwd w5 ev
  have hat := Jvm.Free.IntBox.arrayAt_of hA harr hvm
  obtain ⟨hsz, hsize⟩ := Jvm.Free.IntBox.length_fwd w6 ev hA harr hvm
  have h256 : cell.slots.size = 256 := by
    have e : (cell.slots.size.toInt32).toInt = cell.slots.size := by
      have : (cell.slots.size.toInt32).toInt = (cell.slots.size : Int).bmod (2 ^ 32) := by simp [Nat.toInt32, Int32.size]
      rw [this]; simp [Int.bmod]; omega
    rw [hsize] at e
    have : ((256 : Int32)).toInt = 256 := by decide
    omega
  have hall := Cond.all_elim ev hat (Cond.before_iff.mp w7)
  have hel : ∀ i, i < 256 → ∃ r, cell.slots[i]? = some (.ref r) ∧ Exa s s.heap r "java/lang/Long" := fun i hi => by
    obtain ⟨q1, -⟩ := and_e (hall i (by rw [h256]; exact hi))
    obtain ⟨r, er⟩ := exa_v q1
    refine ⟨r, ?_, exa_at er q1⟩
    have evi : (Term.static "java/lang/Long$LongCache" "cache" "[Ljava/lang/Long;").eval args s none [i] s = some (.ref a) := ev
    obtain ⟨hnn, hback⟩ := Jvm.Free.IntBox.place_nonneg i hi
    have e2 : ∀ t : Term, t.eval args s none [i] s = some (.ref a) → (Term.elem t (.index 0)).eval args s none [i] s = cell.slots[i]? := fun t ht => by
      simp [Term.eval, ht, hnn, hat, hback]
    rw [← e2 _ evi]; exact er
  refine ⟨a, cell.cls, cell.slots.toList, Sta.start ev (Or.inr ⟨wI, w3⟩), ⟨cell, ⟨hA, harr, hvm⟩, rfl, by rw [h256]; decide, by decide, fun k hk => ?_, fun k hk => ?_⟩, fun i hi => ?_⟩
  · rw [List.getD_eq_getElem?_getD, Array.getElem?_toList, Array.getElem?_eq_getElem hk]; rfl
  · obtain ⟨r, e, -⟩ := hel k (by rw [← h256]; exact hk)
    rw [List.getD_eq_getElem?_getD, Array.getElem?_toList, e]; rfl
  · obtain ⟨r, e, E⟩ := hel i hi
    exact ⟨r, by rw [List.getD_eq_getElem?_getD, Array.getElem?_toList, e]; rfl, E⟩
def own_bs (cs : List Int32) : List Value := (cs.map (fun c => c.toInt8.toInt32)).map Value.int
theorem own_placeL (x : Int64) (h1 : ¬ (lcmpW x (-128 : Int64)) < (0 : Int32)) (h2 : ¬ (0 : Int32) < (lcmpW x (127 : Int64))) : (¬ (x.toInt32 + (128 : Int32)) < 0 ∧ (x.toInt32 + (128 : Int32)) < (256 : Int32)) ∧ (x.toInt32 + (128 : Int32)).toNatClampNeg < 256 := by
  have a1 : ¬ x < (-128 : Int64) := fun q => h1 (by
    have n1 : ¬ (-128 : Int64) < x := Int64.not_lt.mpr (Int64.le_of_lt q)
    have n2 : ¬ x = (-128 : Int64) := fun e => by subst e; exact absurd q (by decide)
    simp only [lcmpW, if_neg n1, if_neg n2]; decide)
  have a2 : ¬ (127 : Int64) < x := fun q => h2 (by simp only [lcmpW, if_pos q]; decide)
  rw [Int64.lt_iff_toInt_lt] at a1 a2
  have e1 : (-128 : Int64).toInt = -128 := rfl
  have e2 : (127 : Int64).toInt = 127 := rfl
  have e3 : x.toInt32.toInt = x.toInt := by rw [Int64.toInt_toInt32]; simp [Int.bmod]; omega
  refine own_place x.toInt32 ?_ ?_ <;> rw [Int32.lt_iff_toInt_lt]
  · have e4 : (-128 : Int32).toInt = -128 := rfl
    omega
  · have e4 : (127 : Int32).toInt = 127 := rfl
    omega
end Common
end Jvm.OwnKit

/- laws to paste: Road.backV (cut by pick.py; bodies as the Statement names them) -/
namespace Jvm.Pilot.@@N@@
namespace StrChars
open Jvm Sem ClassFile Op Lib Jvm.Stand Jvm.Free.XT Jvm.Free.ALB Jvm.Free.JM Jvm.Free
open Jvm.Lib.Cold (StaticIs)
/-- a char array whose places are chars -/
def Ch (a : Addr) (A : Cell) (U : State) : Prop := Arr .char a A U ∧ Typed .char A
theorem Ch.mv {a : Addr} {A : Cell} {U U' : State} (h : Ch a A U) (hal : U.vm.Alike U'.vm) (hh : U'.heap = U.heap) : Ch a A U' := ⟨h.1.mv hal hh, h.2⟩
theorem Ch.keep {a : Addr} {A : Cell} {U U' : State} (h : Ch a A U) (hal : U.vm.Alike U'.vm) (hk : U'.heap[a]? = some A) : Ch a A U' := ⟨h.1.keep hal hk, h.2⟩
/-- what place i of a char[]'s cell holds -/
def cv (A : Cell) (i : Nat) : Int32 := match A.slots[i]? with | some (.int x) => x | _ => 0
theorem Ch.get {a : Addr} {A : Cell} {U : State} (h : Ch a A U) {i : Nat} (hi : i < A.slots.size) : A.slots[i]? = some (.int (cv A i)) := by
  have e := Array.getElem?_eq_getElem hi
  have f := h.2 i _ e
  unfold cv; rw [e]
  generalize A.slots[i] = v at f
  cases v <;> simp [fits] at f ⊢
/-- the byte that i2b leaves of a char -/
def lo8 (x : Int32) : Int32 := x.toInt8.toInt32
theorem fits_lo8 (y : Int32) : fits .byte (.int (lo8 y)) = true := by
  have h1 := y.toInt8.le_toInt
  have h2 := y.toInt8.toInt_lt
  simp only [lo8, fits, Bool.and_eq_true, decide_eq_true_eq, Int32.le_iff_toInt_le, Int8.toInt_toInt32, show (-128 : Int32).toInt = -128 from by decide, show (127 : Int32).toInt = 127 from by decide]
  omega
/-- A' is A but that each place j of lo .. hi - 1 holds f j -/
def Laid (A A' : Cell) (lo hi : Nat) (f : Nat → Value) : Prop := A'.cls = A.cls ∧ A'.vm = A.vm ∧ A'.slots.size = A.slots.size ∧ ∀ i, A'.slots[i]? = if lo ≤ i ∧ i < hi then some (f i) else A.slots[i]?
theorem Laid.zero (A : Cell) (lo : Nat) (f : Nat → Value) : Laid A A lo (lo + 0) f := ⟨rfl, rfl, rfl, fun i => by rw [if_neg (by omega)]⟩
theorem Laid.step {A Ak : Cell} {lo k : Nat} {f : Nat → Value} {v : Value} (h : Laid A Ak lo k f) (hlo : lo ≤ k) (hk : k < Ak.slots.size) (hv : v = f k) : Laid A (Ak.setSlot k v) lo (k + 1) f := by
  refine ⟨h.1, h.2.1, by simpa [Cell.setSlot] using h.2.2.1, fun i => ?_⟩
  by_cases e : k = i
  · subst e; rw [Cell.slots_setSlot_self v hk, if_pos (by omega), hv]
  · rw [Cell.slots_setSlot_ne v e, h.2.2.2 i]
    by_cases q : lo ≤ i ∧ i < k
    · rw [if_pos q, if_pos (by omega)]
    · rw [if_neg q, if_neg (by omega)]
def U16 : String := "java/lang/StringUTF16"
namespace Cmp5
def yN : MethodName := ⟨"java/lang/StringUTF16", "compress", "([CI[BII)I"⟩
abbrev yB : ByteArray := jdk_52_method_21_code
theorem d0 : decode yB 0 = .ok (.iconst 0, 1) := by decide +kernel
theorem d1 : decode yB 1 = .ok (.istore 5, 2) := by decide +kernel
theorem d3 : decode yB 3 = .ok (.iload 5, 2) := by decide +kernel
theorem d5 : decode yB 5 = .ok (.iload 4, 2) := by decide +kernel
theorem d7 : decode yB 7 = .ok (.if_icmp (.ge) 37, 3) := by decide +kernel
theorem d10 : decode yB 10 = .ok (.aload_n 0, 1) := by decide +kernel
theorem d11 : decode yB 11 = .ok (.iload_n 1, 1) := by decide +kernel
theorem d12 : decode yB 12 = .ok (.caload, 1) := by decide +kernel
theorem d13 : decode yB 13 = .ok (.istore 6, 2) := by decide +kernel
theorem d15 : decode yB 15 = .ok (.iload 6, 2) := by decide +kernel
theorem d17 : decode yB 17 = .ok (.sipush 255, 3) := by decide +kernel
theorem d20 : decode yB 20 = .ok (.if_icmp (.le) 6, 3) := by decide +kernel
theorem d26 : decode yB 26 = .ok (.aload_n 2, 1) := by decide +kernel
theorem d27 : decode yB 27 = .ok (.iload_n 3, 1) := by decide +kernel
theorem d28 : decode yB 28 = .ok (.iload 6, 2) := by decide +kernel
theorem d30 : decode yB 30 = .ok (.i2b, 1) := by decide +kernel
theorem d31 : decode yB 31 = .ok (.bastore, 1) := by decide +kernel
theorem d32 : decode yB 32 = .ok (.iinc 1 1, 3) := by decide +kernel
theorem d35 : decode yB 35 = .ok (.iinc 3 1, 3) := by decide +kernel
theorem d38 : decode yB 38 = .ok (.iinc 5 1, 3) := by decide +kernel
theorem d41 : decode yB 41 = .ok (.goto (-38), 3) := by decide +kernel
theorem d44 : decode yB 44 = .ok (.iload 4, 2) := by decide +kernel
theorem d46 : decode yB 46 = .ok (.ireturn, 1) := by decide +kernel
def site : List Cond := []
def tab : Cond := tabOf yN yB 7 (some .int) site
def P (b : Addr) (A : Cell) (d : Addr) (B : Cell) (o q len : Nat) (args : Array Value) (s : State) : Prop := args = #[.ref b, .int (Int32.ofNat o), .ref d, .int (Int32.ofNat q), .int (Int32.ofNat len)] ∧ Ch b A s ∧ Arr .byte d B s ∧ b ≠ d ∧ o + len ≤ A.slots.size ∧ q + len ≤ B.slots.size ∧ ∀ i, i < len → ¬ 255 < cv A (o + i)
def E (b : Addr) (A : Cell) (d : Addr) (B : Cell) (o q len : Nat) (r : Option Value) (s u : State) : Prop := r = some (.int (Int32.ofNat len)) ∧ ∃ B', Put d B' s u ∧ Laid B B' q (q + len) (fun j => Value.int (lo8 (cv A (o + (j - q)))))
/-- no char of the range above 255: len; the places written hold each char's low byte -/
theorem law (l : Launch) (b : Addr) (A : Cell) (d : Addr) (B : Cell) (o q len : Nat) : Law l yN 5 5 0 0 yB 7 (some .int) site (P b A d B o q len) (E b A d B o q len) (copyLocs d q len) 0 0 := by
  refine Law.of_walk (plainFor_of_name (by decide +kernel)) (by decide +kernel) (by decide +kernel) (by decide) (fun _ _ h => by rw [h.1]; rfl) (fun _ U U' hal hh h => ⟨h.1, h.2.1.mv hal hh, h.2.2.1.mv hal hh, h.2.2.2⟩) (fun r U U' V V' h1 hal h2 h => ⟨h.1, h.2.elim fun B' q => ⟨B', q.1.mv h1 h2, q.2⟩⟩) ?_
  intro p e s m args below meth c s₁ X0 hexec hbytes hml hret hlk hnm hown hh0 W hP
  obtain ⟨rfl, hA, hB, hne, l1, l2, hp⟩ := hP
  have c1 : Steps p.tables e below (s₁.setTop (entryFrame m #[.ref b, .int (Int32.ofNat o), .ref d, .int (Int32.ofNat q), .int (Int32.ofNat len)] 7)) (s₁.setTop (mkF m 0 #[.val (.ref b), .val (.int (Int32.ofNat o)), .val (.ref d), .val (.int (Int32.ofNat q)), .val (.int (Int32.ofNat len)), .unset, .unset] [])) := entry rfl
  have hA0 := hA.1.mv X0.warmed.alike hh0
  have hB0 := hB.mv X0.warmed.alike hh0
  have a31 := hA.1.2.2.2
  have c2 : Steps p.tables e below (s₁.setTop (entryFrame m #[.ref b, .int (Int32.ofNat o), .ref d, .int (Int32.ofNat q), .int (Int32.ofNat len)] 7)) (s₁.setTop (mkF m 3 #[.val (.ref b), .val (.int (Int32.ofNat o)), .val (.ref d), .val (.int (Int32.ofNat q)), .val (.int (Int32.ofNat len)), .val (.int 0), .unset] [])) := c1.trans (by
    refine iconstV X0.here hexec rfl 0 (hb hbytes d0) (by decide) ?_
    refine XS.istore X0.here hexec rfl (hb hbytes d1) rfl rfl ?_
    exact Steps.refl _)
  have loop : ∀ (r i : Nat), i + r = len → ∀ (z : Slot), (z = .unset ∨ ∃ w, z = .val w ∧ w.category = 1) → ∀ (Tl : State) (Bk : Cell), Stand p l e { frames := 0, locals := 0, cells := 0, slots := 0 } s m #[.ref b, .int (Int32.ofNat o), .ref d, .int (Int32.ofNat q), .int (Int32.ofNat len)] below meth c Tl ([] ++ copyLocs d q i) 0 0 → Put d Bk s₁ Tl → Laid B Bk q (q + i) (fun j => Value.int (lo8 (cv A (o + (j - q))))) →
      Steps p.tables e below (s₁.setTop (entryFrame m #[.ref b, .int (Int32.ofNat o), .ref d, .int (Int32.ofNat q), .int (Int32.ofNat len)] 7)) (Tl.setTop (mkF m 3 #[.val (.ref b), .val (.int (Int32.ofNat (o + i))), .val (.ref d), .val (.int (Int32.ofNat (q + i))), .val (.int (Int32.ofNat len)), .val (.int (Int32.ofNat i)), z] [])) → ∃ (T' : State) (B' : Cell) (z' : Slot), Stand p l e { frames := 0, locals := 0, cells := 0, slots := 0 } s m #[.ref b, .int (Int32.ofNat o), .ref d, .int (Int32.ofNat q), .int (Int32.ofNat len)] below meth c T' ([] ++ copyLocs d q len) 0 0 ∧ Put d B' s₁ T' ∧ Laid B B' q (q + len) (fun j => Value.int (lo8 (cv A (o + (j - q))))) ∧
      Steps p.tables e below (s₁.setTop (entryFrame m #[.ref b, .int (Int32.ofNat o), .ref d, .int (Int32.ofNat q), .int (Int32.ofNat len)] 7)) (T'.setTop (mkF m 3 #[.val (.ref b), .val (.int (Int32.ofNat (o + len))), .val (.ref d), .val (.int (Int32.ofNat (q + len))), .val (.int (Int32.ofNat len)), .val (.int (Int32.ofNat len)), z'] [])) := by
    intro r
    induction r with
    | zero =>
      intro i hi z hz Tl Bk Xl pl fl cl
      have hil : i = len := by omega
      rw [hil] at Xl fl cl
      exact ⟨Tl, Bk, z, Xl, pl, fl, cl⟩
    | succ r ih =>
      intro i hi z hz Tl Bk Xl pl fl cl
      have all := X0.warmed.alike.symm.trans Xl.warmed.alike
      have hAl := hA0.keep all (pl.other hne hA0.1)
      have hBk := hB0.like all pl.1 fl.1 fl.2.1 fl.2.2.1
      have hlt : q + i < Bk.slots.size := by rw [fl.2.2.1]; omega
      have c3 : Steps p.tables e below (s₁.setTop (entryFrame m #[.ref b, .int (Int32.ofNat o), .ref d, .int (Int32.ofNat q), .int (Int32.ofNat len)] 7)) (Tl.setTop (mkF m 12 #[.val (.ref b), .val (.int (Int32.ofNat (o + i))), .val (.ref d), .val (.int (Int32.ofNat (q + i))), .val (.int (Int32.ofNat len)), .val (.int (Int32.ofNat i)), z] [.int (Int32.ofNat (o + i)), .ref b])) := cl.trans (by
        refine XS.iload Xl.here hexec rfl (hb hbytes d3) rfl ?_
        refine XS.iload Xl.here hexec rfl (hb hbytes d5) rfl ?_
        refine XS.icmpNo Xl.here hexec rfl (hb hbytes d7) rfl (ii_ge_f (lt32 (by omega) (by omega))) ?_
        refine XS.aloadN Xl.here hexec rfl (hb hbytes d10) rfl rfl ?_
        refine XS.iloadN Xl.here hexec rfl (hb hbytes d11) rfl ?_
        exact Steps.refl _)
      have c4 : Steps p.tables e below (s₁.setTop (entryFrame m #[.ref b, .int (Int32.ofNat o), .ref d, .int (Int32.ofNat q), .int (Int32.ofNat len)] 7)) (Tl.setTop (mkF m 13 #[.val (.ref b), .val (.int (Int32.ofNat (o + i))), .val (.ref d), .val (.int (Int32.ofNat (q + i))), .val (.int (Int32.ofNat len)), .val (.int (Int32.ofNat i)), z] [.int (cv A (o + i))])) := c3.trans (by
        refine Xl.aget hexec hAl rfl (hA.get (i := o + i) (by omega)) rfl rfl (hb hbytes d12) ?_
        exact Steps.refl _)
      have c5 : Steps p.tables e below (s₁.setTop (entryFrame m #[.ref b, .int (Int32.ofNat o), .ref d, .int (Int32.ofNat q), .int (Int32.ofNat len)] 7)) (Tl.setTop (mkF m 15 #[.val (.ref b), .val (.int (Int32.ofNat (o + i))), .val (.ref d), .val (.int (Int32.ofNat (q + i))), .val (.int (Int32.ofNat len)), .val (.int (Int32.ofNat i)), .val (.int (cv A (o + i)))] [])) := c4.trans (by
        refine XS.istoreS Xl.here hexec rfl (hb hbytes d13) rfl rfl hz ?_
        exact Steps.refl _)
      have c6 : Steps p.tables e below (s₁.setTop (entryFrame m #[.ref b, .int (Int32.ofNat o), .ref d, .int (Int32.ofNat q), .int (Int32.ofNat len)] 7)) (Tl.setTop (mkF m 31 #[.val (.ref b), .val (.int (Int32.ofNat (o + i))), .val (.ref d), .val (.int (Int32.ofNat (q + i))), .val (.int (Int32.ofNat len)), .val (.int (Int32.ofNat i)), .val (.int (cv A (o + i)))] [.int (lo8 (cv A (o + i))), .int (Int32.ofNat (q + i)), .ref d])) := c5.trans (by
        refine XS.iload Xl.here hexec rfl (hb hbytes d15) rfl ?_
        refine sipushV Xl.here hexec rfl 255 (hb hbytes d17) (by decide) ?_
        refine XS.icmpYes Xl.here hexec rfl (pc0 := 20) rfl (hb hbytes d20) rfl (ii_le_t (hp i (by omega))) (by decide) rfl ?_
        refine XS.aloadN Xl.here hexec rfl (hb hbytes d26) rfl rfl ?_
        refine XS.iloadN Xl.here hexec rfl (hb hbytes d27) rfl ?_
        refine XS.iload Xl.here hexec rfl (hb hbytes d28) rfl ?_
        refine i2b Xl.here hexec rfl (hb hbytes d30) rfl ?_
        exact Steps.refl _)
      obtain ⟨T7, X7, p7, st7⟩ := Xl.aput hexec hBk rfl hlt rfl (fits_lo8 (cv A (o + i))) (g := (mkF m 31 #[.val (.ref b), .val (.int (Int32.ofNat (o + i))), .val (.ref d), .val (.int (Int32.ofNat (q + i))), .val (.int (Int32.ofNat len)), .val (.int (Int32.ofNat i)), .val (.int (cv A (o + i)))] [.int (lo8 (cv A (o + i))), .int (Int32.ofNat (q + i)), .ref d])) rfl (rest := []) rfl (hb hbytes d31)
      have c8 : Steps p.tables e below (s₁.setTop (entryFrame m #[.ref b, .int (Int32.ofNat o), .ref d, .int (Int32.ofNat q), .int (Int32.ofNat len)] 7)) (T7.setTop (mkF m 32 #[.val (.ref b), .val (.int (Int32.ofNat (o + i))), .val (.ref d), .val (.int (Int32.ofNat (q + i))), .val (.int (Int32.ofNat len)), .val (.int (Int32.ofNat i)), .val (.int (cv A (o + i)))] [])) := c6.trans (st7 _ (Steps.refl _))
      have c9 : Steps p.tables e below (s₁.setTop (entryFrame m #[.ref b, .int (Int32.ofNat o), .ref d, .int (Int32.ofNat q), .int (Int32.ofNat len)] 7)) (T7.setTop (mkF m 3 #[.val (.ref b), .val (.int (Int32.ofNat (o + i) + 1)), .val (.ref d), .val (.int (Int32.ofNat (q + i) + 1)), .val (.int (Int32.ofNat len)), .val (.int (Int32.ofNat i + 1)), .val (.int (cv A (o + i)))] [])) := c8.trans (by
        refine iincV X7.here hexec rfl 1 (hb hbytes d32) (by decide) rfl rfl ?_
        refine iincV X7.here hexec rfl 1 (hb hbytes d35) (by decide) rfl rfl ?_
        refine iincV X7.here hexec rfl 1 (hb hbytes d38) (by decide) rfl rfl ?_
        refine XS.goto X7.here hexec rfl (pc0 := 41) rfl (hb hbytes d41) (by decide) rfl ?_
        exact Steps.refl _)
      have c10 : Steps p.tables e below (s₁.setTop (entryFrame m #[.ref b, .int (Int32.ofNat o), .ref d, .int (Int32.ofNat q), .int (Int32.ofNat len)] 7)) (T7.setTop (mkF m 3 #[.val (.ref b), .val (.int (Int32.ofNat (o + (i + 1)))), .val (.ref d), .val (.int (Int32.ofNat (q + (i + 1)))), .val (.int (Int32.ofNat len)), .val (.int (Int32.ofNat (i + 1))), .val (.int (cv A (o + i)))] [])) := by
        have := c9
        rw [succ32, succ32, succ32] at this
        exact this
      exact ih (i + 1) (by omega) _ (Or.inr ⟨_, rfl, rfl⟩) T7 _ (by rw [copyLocs_step, ← List.append_assoc]; exact X7) (pl.trans p7) (fl.step (by omega) hlt (by simp)) c10
  obtain ⟨T9, B9, z9, X9, p9, f9, g9⟩ := loop len 0 (by omega) .unset (Or.inl rfl) s₁ B (by simpa [copyLocs] using X0) ⟨hB0.1, fun _ _ => rfl, rfl⟩ (Laid.zero _ _ _) c2
  have c11 : Steps p.tables e below (s₁.setTop (entryFrame m #[.ref b, .int (Int32.ofNat o), .ref d, .int (Int32.ofNat q), .int (Int32.ofNat len)] 7)) (T9.setTop (mkF m 46 #[.val (.ref b), .val (.int (Int32.ofNat (o + len))), .val (.ref d), .val (.int (Int32.ofNat (q + len))), .val (.int (Int32.ofNat len)), .val (.int (Int32.ofNat len)), z9] [.int (Int32.ofNat len)])) := g9.trans (by
    refine XS.iload X9.here hexec rfl (hb hbytes d3) rfl ?_
    refine XS.iload X9.here hexec rfl (hb hbytes d5) rfl ?_
    refine XS.icmpYes X9.here hexec rfl (pc0 := 7) rfl (hb hbytes d7) rfl (ii_ge_t (nlt32 (by omega) (Nat.le_refl _))) (by decide) rfl ?_
    refine XS.iload X9.here hexec rfl (hb hbytes d44) rfl ?_
    exact Steps.refl _)
  exact ⟨T9, some (.int (Int32.ofNat len)), _, _, _, X9, by simp, rfl, rfl, (fun h => by cases h), ⟨rfl, B9, p9.from hh0, f9⟩, fun fs hl => c11.trans (X9.ireturnOut hexec hret rfl (Or.inl rfl) (hb hbytes d46) hl)⟩
end Cmp5
namespace Cmp3
def yN : MethodName := ⟨"java/lang/StringUTF16", "compress", "([CII)[B"⟩
abbrev yB : ByteArray := jdk_52_method_16_code
theorem d0 : decode yB 0 = .ok (.iload_n 2, 1) := by decide +kernel
theorem d1 : decode yB 1 = .ok (.newarray .byte, 2) := by decide +kernel
theorem d3 : decode yB 3 = .ok (.astore_n 3, 1) := by decide +kernel
theorem d4 : decode yB 4 = .ok (.aload_n 0, 1) := by decide +kernel
theorem d5 : decode yB 5 = .ok (.iload_n 1, 1) := by decide +kernel
theorem d6 : decode yB 6 = .ok (.aload_n 3, 1) := by decide +kernel
theorem d7 : decode yB 7 = .ok (.iconst 0, 1) := by decide +kernel
theorem d8 : decode yB 8 = .ok (.iload_n 2, 1) := by decide +kernel
theorem d9 : decode yB 9 = .ok (.invokestatic 115, 3) := by decide +kernel
theorem d12 : decode yB 12 = .ok (.istore 4, 2) := by decide +kernel
theorem d14 : decode yB 14 = .ok (.iload 4, 2) := by decide +kernel
theorem d16 : decode yB 16 = .ok (.iload_n 2, 1) := by decide +kernel
theorem d17 : decode yB 17 = .ok (.if_icmp (.eq) 40, 3) := by decide +kernel
theorem d57 : decode yB 57 = .ok (.aload_n 3, 1) := by decide +kernel
theorem d58 : decode yB 58 = .ok (.areturn, 1) := by decide +kernel
def site : List Cond := [.arrayClass .byte, Cmp5.tab] ++ staticW U16 115 Cmp5.yN
def tab : Cond := tabOf yN yB 6 (some (.array .byte)) site
def P (b : Addr) (A : Cell) (o len : Nat) (args : Array Value) (s : State) : Prop := args = #[.ref b, .int (Int32.ofNat o), .int (Int32.ofNat len)] ∧ Ch b A s ∧ o + len ≤ A.slots.size ∧ len ≤ 536870912 ∧ ∀ i, i < len → ¬ 255 < cv A (o + i)
def E (b : Addr) (A : Cell) (o len : Nat) (r : Option Value) (s u : State) : Prop := NewArr .byte "[B" len (fun j => .int (lo8 (cv A (o + j)))) r s u ∧ u.heap.size = s.heap.size + 1
/-- no char of the range above 255: a new byte[] of their low bytes -/
theorem law (l : Launch) (b : Addr) (A : Cell) (o len : Nat) : Law l yN 3 3 1 18 yB 6 (some (.array .byte)) site (P b A o len) (E b A o len) [] 1 len := by
  refine Law.of_walk (plainFor_of_name (by decide +kernel)) (by decide +kernel) (by decide +kernel) (by decide) (fun _ _ h => by rw [h.1]; rfl) (fun _ U U' hal hh h => ⟨h.1, h.2.1.mv hal hh, h.2.2⟩) (fun r U U' V V' h1 hal h2 h => ⟨NewArr.mv r U U' V V' h1 hal h2 h.1, by rw [h1, h2]; exact h.2⟩) ?_
  intro p e s m args below meth c s₁ X0 hexec hbytes hml hret hlk hnm hown hh0 W hP
  obtain ⟨rfl, hA, l1, l2, hp⟩ := hP
  have a31 := hA.1.2.2.2
  have c1 : Steps p.tables e below (s₁.setTop (entryFrame m #[.ref b, .int (Int32.ofNat o), .int (Int32.ofNat len)] 6)) (s₁.setTop (mkF m 0 #[.val (.ref b), .val (.int (Int32.ofNat o)), .val (.int (Int32.ofNat len)), .unset, .unset, .unset] [])) := entry rfl
  have c2 : Steps p.tables e below (s₁.setTop (entryFrame m #[.ref b, .int (Int32.ofNat o), .int (Int32.ofNat len)] 6)) (s₁.setTop (mkF m 1 #[.val (.ref b), .val (.int (Int32.ofNat o)), .val (.int (Int32.ofNat len)), .unset, .unset, .unset] [.int (Int32.ofNat len)])) := c1.trans (by
    refine XS.iloadN X0.here hexec rfl (hb hbytes d0) rfl ?_
    exact Steps.refl _)
  obtain ⟨T3, B3, X3, ba3, bs3, bv3, bh3, bf3, st3⟩ := X0.anew hexec (atype := .byte) (wk W (.arrayClass .byte)) rfl (by show len * 1 ≤ _; omega) (by omega) (g := (mkF m 1 #[.val (.ref b), .val (.int (Int32.ofNat o)), .val (.int (Int32.ofNat len)), .unset, .unset, .unset] [.int (Int32.ofNat len)])) rfl (hb hbytes d1) (rest := []) rfl (Nat.le_refl _) (by show 0 + len ≤ len; omega)
  rw [hh0] at ba3 st3
  have kp3 : XT.Kept s T3 := (XT.Kept.of_eq hh0).push bh3
  have hA3 := hA.keep X3.warmed.alike (kp3 _ _ hA.1.1)
  have hne : b ≠ s.heap.size := hA.1.ne
  have c4 : Steps p.tables e below (s₁.setTop (entryFrame m #[.ref b, .int (Int32.ofNat o), .int (Int32.ofNat len)] 6)) (T3.setTop (mkF m 3 #[.val (.ref b), .val (.int (Int32.ofNat o)), .val (.int (Int32.ofNat len)), .unset, .unset, .unset] [.ref s.heap.size])) := c2.trans (st3 _ (Steps.refl _))
  have c5 : Steps p.tables e below (s₁.setTop (entryFrame m #[.ref b, .int (Int32.ofNat o), .int (Int32.ofNat len)] 6)) (T3.setTop (mkF m 9 #[.val (.ref b), .val (.int (Int32.ofNat o)), .val (.int (Int32.ofNat len)), .val (.ref s.heap.size), .unset, .unset] [.int (Int32.ofNat len), .int 0, .ref s.heap.size, .int (Int32.ofNat o), .ref b])) := c4.trans (by
    refine XS.astoreN X3.here hexec rfl (hb hbytes d3) rfl rfl rfl ?_
    refine XS.aloadN X3.here hexec rfl (hb hbytes d4) rfl rfl ?_
    refine XS.iloadN X3.here hexec rfl (hb hbytes d5) rfl ?_
    refine XS.aloadN X3.here hexec rfl (hb hbytes d6) rfl rfl ?_
    refine iconstV X3.here hexec rfl 0 (hb hbytes d7) (by decide) ?_
    refine XS.iloadN X3.here hexec rfl (hb hbytes d8) rfl ?_
    exact Steps.refl _)
  obtain ⟨v6, T6, X6, E6, g6⟩ := X3.callS hexec (Cmp5.law l b A s.heap.size B3 o 0 len) hown (wks W (staticW U16 115 Cmp5.yN)) (wk W Cmp5.tab) (W := 0) (Nat.le_of_ble_eq_true rfl) (Nat.le_of_ble_eq_true rfl) (Nat.le_refl _) (by show 0 + len + 0 ≤ len; omega) (g := (mkF m 9 #[.val (.ref b), .val (.int (Int32.ofNat o)), .val (.int (Int32.ofNat len)), .val (.ref s.heap.size), .unset, .unset] [.int (Int32.ofNat len), .int (Int32.ofNat 0), .ref s.heap.size, .int (Int32.ofNat o), .ref b])) rfl (by rw [hml]; rfl) c5 (argsL := [.ref b, .int (Int32.ofNat o), .ref s.heap.size, .int (Int32.ofNat 0), .int (Int32.ofNat len)]) (rest := []) rfl rfl (by show 2 * 0 + 0 ≤ _; decide) (hb hbytes d9) (⟨rfl, hA3, ba3, hne, l1, by rw [bs3]; simp, hp⟩)
  obtain ⟨rfl, B6, p6, f6⟩ := E6
  have c7 : Steps p.tables e below (s₁.setTop (entryFrame m #[.ref b, .int (Int32.ofNat o), .int (Int32.ofNat len)] 6)) (T6.setTop (mkF m 12 #[.val (.ref b), .val (.int (Int32.ofNat o)), .val (.int (Int32.ofNat len)), .val (.ref s.heap.size), .unset, .unset] [.int (Int32.ofNat len)])) := g6
  have c8 : Steps p.tables e below (s₁.setTop (entryFrame m #[.ref b, .int (Int32.ofNat o), .int (Int32.ofNat len)] 6)) (T6.setTop (mkF m 58 #[.val (.ref b), .val (.int (Int32.ofNat o)), .val (.int (Int32.ofNat len)), .val (.ref s.heap.size), .val (.int (Int32.ofNat len)), .unset] [.ref s.heap.size])) := c7.trans (by
    refine XS.istore X6.here hexec rfl (hb hbytes d12) rfl rfl ?_
    refine XS.iload X6.here hexec rfl (hb hbytes d14) rfl ?_
    refine XS.iloadN X6.here hexec rfl (hb hbytes d16) rfl ?_
    refine XS.icmpYes X6.here hexec rfl (pc0 := 17) rfl (hb hbytes d17) rfl (ii_eq_t rfl) (by decide) rfl ?_
    refine XS.aloadN X6.here hexec rfl (hb hbytes d57) rfl rfl ?_
    exact Steps.refl _)
  have X8 := X6.wide (L' := []) (cells' := 1) (slots' := len) (fun x hx hlt => by
    simp only [List.nil_append, copyLocs, List.mem_map, List.mem_range] at hx
    obtain ⟨i, -, rfl⟩ := hx
    exact absurd hlt (Nat.lt_irrefl _)) (Nat.le_refl _) (by omega)
  exact ⟨T6, some (.ref s.heap.size), _, _, _, X8, rfl, rfl, rfl, (fun h => by cases h), ⟨⟨rfl, B6, ba3.like (X3.warmed.alike.symm.trans X6.warmed.alike) p6.1 f6.1 f6.2.1 f6.2.2.1, f6.2.1.trans bv3, by rw [X6.warmed.alike.findClass, f6.1]; exact bf3, by rw [f6.2.2.1, bs3]; simp, fun j hj => by rw [f6.2.2.2 j, if_pos (by omega)]; rfl, kp3.put p6 (Nat.le_refl _)⟩, by rw [p6.2.2, bh3, hh0]; simp⟩, fun fs hl => c8.trans (X8.areturnOut hexec rfl hret rfl (hb hbytes d58) hl)⟩
end Cmp3
namespace CodL
def yN : MethodName := ⟨"java/lang/StringUTF16", "coderFromArrayLen", "([BI)B"⟩
abbrev yB : ByteArray := jdk_52_method_15_code
theorem d0 : decode yB 0 = .ok (.iload_n 1, 1) := by decide +kernel
theorem d1 : decode yB 1 = .ok (.aload_n 0, 1) := by decide +kernel
theorem d2 : decode yB 2 = .ok (.arraylength, 1) := by decide +kernel
theorem d3 : decode yB 3 = .ok (.isub, 1) := by decide +kernel
theorem d4 : decode yB 4 = .ok (.bipush 31, 2) := by decide +kernel
theorem d6 : decode yB 6 = .ok (.iushr, 1) := by decide +kernel
theorem d7 : decode yB 7 = .ok (.i2b, 1) := by decide +kernel
theorem d8 : decode yB 8 = .ok (.ireturn, 1) := by decide +kernel
def site : List Cond := []
def tab : Cond := tabOf yN yB 2 (some .byte) site
def P (d : Addr) (B : Cell) (args : Array Value) (s : State) : Prop := args = #[.ref d, .int (Int32.ofNat B.slots.size)] ∧ Arr .byte d B s
def E (r : Option Value) (s u : State) : Prop := XT.PureE (some (.int 0)) r s u
/-- an array as long as the number of chars: LATIN1 -/
theorem law (l : Launch) (d : Addr) (B : Cell) : Law l yN 2 2 0 0 yB 2 (some .byte) site (P d B) E [] 0 0 := by
  refine Law.of_walk (plainFor_of_name (by decide +kernel)) (by decide +kernel) (by decide +kernel) (by decide) (fun _ _ h => by rw [h.1]; rfl) (fun _ U U' hal hh h => ⟨h.1, h.2.mv hal hh⟩) (fun r U U' V V' h1 hal h2 h => XT.PureE.mv r U U' V V' h1 hal h2 h) ?_
  intro p e s m args below meth c s₁ X0 hexec hbytes hml hret hlk hnm hown hh0 W hP
  obtain ⟨rfl, hB⟩ := hP
  have hB0 := hB.mv X0.warmed.alike hh0
  have c1 : Steps p.tables e below (s₁.setTop (entryFrame m #[.ref d, .int (Int32.ofNat B.slots.size)] 2)) (s₁.setTop (mkF m 0 #[.val (.ref d), .val (.int (Int32.ofNat B.slots.size))] [])) := entry rfl
  have c2 : Steps p.tables e below (s₁.setTop (entryFrame m #[.ref d, .int (Int32.ofNat B.slots.size)] 2)) (s₁.setTop (mkF m 2 #[.val (.ref d), .val (.int (Int32.ofNat B.slots.size))] [.ref d, .int (Int32.ofNat B.slots.size)])) := c1.trans (by
    refine XS.iloadN X0.here hexec rfl (hb hbytes d0) rfl ?_
    refine XS.aloadN X0.here hexec rfl (hb hbytes d1) rfl rfl ?_
    exact Steps.refl _)
  have c3 : Steps p.tables e below (s₁.setTop (entryFrame m #[.ref d, .int (Int32.ofNat B.slots.size)] 2)) (s₁.setTop (mkF m 8 #[.val (.ref d), .val (.int (Int32.ofNat B.slots.size))] [.int (lo8 (ushr (Int32.ofNat B.slots.size - Int32.ofNat B.slots.size) 31))])) := c2.trans (by
    refine X0.alen hexec hB0 rfl rfl (hb hbytes d2) ?_
    refine XS.isub X0.here hexec rfl (hb hbytes d3) rfl ?_
    refine bipushV X0.here hexec rfl 31 (hb hbytes d4) (by decide) ?_
    refine iushr X0.here hexec rfl (hb hbytes d6) rfl ?_
    refine i2b X0.here hexec rfl (hb hbytes d7) rfl ?_
    exact Steps.refl _)
  have e0 : lo8 (ushr (Int32.ofNat B.slots.size - Int32.ofNat B.slots.size) 31) = 0 := by rw [Int32.sub_self]; decide
  rw [e0] at c3
  exact ⟨s₁, some (.int 0), _, _, _, X0, rfl, rfl, rfl, (fun h => by cases h), ⟨rfl, hh0⟩, fun fs hl => c3.trans (X0.ireturnOut hexec hret rfl (Or.inr (Or.inr (Or.inl rfl))) (hb hbytes d8) hl)⟩
end CodL
/-- the String at a is Latin-1 over a new byte[] (the heap's one new cell): the low bytes of the len chars of A from o on; every cell but a is kept -/
def Got (a : Addr) (D : Cell) (fV fC : Field) (A : Cell) (o len : Nat) (r : Option Value) (s u : State) : Prop := r = none ∧ ∃ D' V : Cell, Blank "java/lang/String" a D' u ∧ Same D D' [fV.slot, fC.slot] ∧ D'.slots[fV.slot]? = some (.ref s.heap.size) ∧ D'.slots[fC.slot]? = some (.int 0) ∧ Arr .byte s.heap.size V u ∧ V.vm = .none ∧ u.vm.findClass "[B" = some V.cls ∧ V.slots.size = len ∧ (∀ j, j < len → V.slots[j]? = some (.int (lo8 (cv A (o + j))))) ∧ (∀ (y : Addr) (c : Cell), y ≠ a → s.heap[y]? = some c → u.heap[y]? = some c) ∧ u.heap.size = s.heap.size + 1
theorem Got.mv {a : Addr} {D A : Cell} {fV fC : Field} {o len : Nat} : ∀ r (U U' V V' : State), U'.heap = U.heap → V.vm.Alike V'.vm → V'.heap = V.heap → Got a D fV fC A o len r U V → Got a D fV fC A o len r U' V' :=
  fun r U U' V V' h1 hal h2 ⟨e0, D', X, a1, a2, a3, a4, a5, a6, a7, a8, a9, a10, a11⟩ => ⟨e0, D', X, a1.mv hal h2, a2, by rw [h1]; exact a3, a4, by rw [h1]; exact a5.mv hal h2, a6, by rw [hal.findClass]; exact a7, a8, a9, by rw [h1, h2]; exact a10, by rw [h1, h2]; exact a11⟩
namespace New4
def yN : MethodName := ⟨"java/lang/String", "<init>", "([CIILjava/lang/Void;)V"⟩
abbrev yB : ByteArray := jdk_42_method_149_code
theorem d0 : decode yB 0 = .ok (.aload_n 0, 1) := by decide +kernel
theorem d1 : decode yB 1 = .ok (.invokespecial 1, 3) := by decide +kernel
theorem d4 : decode yB 4 = .ok (.iload_n 3, 1) := by decide +kernel
theorem d5 : decode yB 5 = .ok (.ifCond (.ne) 22, 3) := by decide +kernel
theorem d27 : decode yB 27 = .ok (.getstatic 38, 3) := by decide +kernel
theorem d30 : decode yB 30 = .ok (.ifCond (.eq) 28, 3) := by decide +kernel
theorem d33 : decode yB 33 = .ok (.aload_n 1, 1) := by decide +kernel
theorem d34 : decode yB 34 = .ok (.iload_n 2, 1) := by decide +kernel
theorem d35 : decode yB 35 = .ok (.iload_n 3, 1) := by decide +kernel
theorem d36 : decode yB 36 = .ok (.invokestatic 177, 3) := by decide +kernel
theorem d39 : decode yB 39 = .ok (.astore 5, 2) := by decide +kernel
theorem d41 : decode yB 41 = .ok (.aload_n 0, 1) := by decide +kernel
theorem d42 : decode yB 42 = .ok (.aload 5, 2) := by decide +kernel
theorem d44 : decode yB 44 = .ok (.iload_n 3, 1) := by decide +kernel
theorem d45 : decode yB 45 = .ok (.invokestatic 47, 3) := by decide +kernel
theorem d48 : decode yB 48 = .ok (.putfield 15, 3) := by decide +kernel
theorem d51 : decode yB 51 = .ok (.aload_n 0, 1) := by decide +kernel
theorem d52 : decode yB 52 = .ok (.aload 5, 2) := by decide +kernel
theorem d54 : decode yB 54 = .ok (.putfield 9, 3) := by decide +kernel
theorem d57 : decode yB 57 = .ok (.return_, 1) := by decide +kernel
def site : List Cond := [.fieldLink "java/lang/String" 38 "java/lang/String" "COMPACT_STRINGS" "Z", Cmp3.tab, CodL.tab, .laysFinal "java/lang/String" "java/lang/String" "value" "[B", .fieldLink "java/lang/String" 9 "java/lang/String" "value" "[B", .laysFinal "java/lang/String" "java/lang/String" "coder" "B", .fieldLink "java/lang/String" 15 "java/lang/String" "coder" "B"] ++ objW "java/lang/String" 1 ++ staticW "java/lang/String" 177 Cmp3.yN ++ staticW "java/lang/String" 47 CodL.yN
def tab : Cond := tabOf yN yB 6 none site
def P (a : Addr) (D : Cell) (fV fC : Field) (b : Addr) (A : Cell) (z : Int32) (o len : Nat) (args : Array Value) (s : State) : Prop := args = #[.ref a, .ref b, .int (Int32.ofNat o), .int (Int32.ofNat len), .null] ∧ Blank "java/lang/String" a D s ∧ Found "java/lang/String" "value" "[B" fV s ∧ Found "java/lang/String" "coder" "B" fC s ∧ Ch b A s ∧ StaticIs s "java/lang/String" "COMPACT_STRINGS" "Z" (.int z) ∧ ¬ z = 0 ∧ 0 < len ∧ o + len ≤ A.slots.size ∧ len ≤ 536870912 ∧ ∀ i, i < len → ¬ 255 < cv A (o + i)
def E (a : Addr) (D : Cell) (fV fC : Field) (A : Cell) (o len : Nat) (r : Option Value) (s u : State) : Prop := Got a D fV fC A o len r s u
/-- len > 0, no char of the range above 255: a Latin-1 String of their low bytes -/
theorem law (l : Launch) (a : Addr) (D : Cell) (fV fC : Field) (b : Addr) (A : Cell) (z : Int32) (o len : Nat) : Law l yN 5 4 2 35 yB 6 none site (P a D fV fC b A z o len) (E a D fV fC A o len) [⟨a, fC.slot⟩, ⟨a, fV.slot⟩] 1 len := by
  refine Law.of_walk (plainFor_of_name (by decide +kernel)) (by decide +kernel) (by decide +kernel) (by decide) (fun _ _ h => by rw [h.1]; rfl) (fun _ U U' hal hh h => ⟨h.1, h.2.1.mv hal hh, h.2.2.1.al hal, h.2.2.2.1.al hal, h.2.2.2.2.1.mv hal hh, h.2.2.2.2.2.1.there hal hh, h.2.2.2.2.2.2⟩) (fun r U U' V V' h1 hal h2 h => Got.mv r U U' V V' h1 hal h2 h) ?_
  intro p e s m args below meth c s₁ X0 hexec hbytes hml hret hlk hnm hown hh0 W hP
  obtain ⟨rfl, hB, f1, f2, hA, s1, hz, l0, l1, l2, hp⟩ := hP
  have a31 := hA.1.2.2.2
  have c1 : Steps p.tables e below (s₁.setTop (entryFrame m #[.ref a, .ref b, .int (Int32.ofNat o), .int (Int32.ofNat len), .null] 6)) (s₁.setTop (mkF m 0 #[.val (.ref a), .val (.ref b), .val (.int (Int32.ofNat o)), .val (.int (Int32.ofNat len)), .val .null, .unset] [])) := entry rfl
  have c2 : Steps p.tables e below (s₁.setTop (entryFrame m #[.ref a, .ref b, .int (Int32.ofNat o), .int (Int32.ofNat len), .null] 6)) (s₁.setTop (mkF m 1 #[.val (.ref a), .val (.ref b), .val (.int (Int32.ofNat o)), .val (.int (Int32.ofNat len)), .val .null, .unset] [.ref a])) := c1.trans (by
    refine XS.aloadN X0.here hexec rfl (hb hbytes d0) rfl rfl ?_
    exact Steps.refl _)
  obtain ⟨T3, X3, q3, st3⟩ := X0.oinit hexec hown (wks W (objW "java/lang/String" 1)) (g := (mkF m 1 #[.val (.ref a), .val (.ref b), .val (.int (Int32.ofNat o)), .val (.int (Int32.ofNat len)), .val .null, .unset] [.ref a])) rfl (by rw [hml]; rfl) (rest := []) rfl (hb hbytes d1) (W := 0) (by show 2 * 0 + 0 ≤ _; decide) (Nat.le_of_ble_eq_true rfl) (Nat.le_of_ble_eq_true rfl)
  have hh3 := q3.trans hh0
  have c4 : Steps p.tables e below (s₁.setTop (entryFrame m #[.ref a, .ref b, .int (Int32.ofNat o), .int (Int32.ofNat len), .null] 6)) (T3.setTop (mkF m 27 #[.val (.ref a), .val (.ref b), .val (.int (Int32.ofNat o)), .val (.int (Int32.ofNat len)), .val .null, .unset] [])) := (c2.trans (st3 _ (Steps.refl _))).trans (by
    refine XS.iloadN X3.here hexec rfl (hb hbytes d4) rfl ?_
    refine XS.ifYes X3.here hexec rfl (pc0 := 5) rfl (hb hbytes d5) rfl (i0_ne_t (nz32 (by omega) l0)) (by decide) rfl ?_
    exact Steps.refl _)
  obtain ⟨T5, X5, q5, st5⟩ := X3.sget hexec hown (wk W (.fieldLink "java/lang/String" 38 "java/lang/String" "COMPACT_STRINGS" "Z")) s1 (fun _ _ h => by rw [hh3]; exact h) (g := (mkF m 27 #[.val (.ref a), .val (.ref b), .val (.int (Int32.ofNat o)), .val (.int (Int32.ofNat len)), .val .null, .unset] [])) rfl (hb hbytes d27)
  have hh5 := q5.trans hh3
  have c6 : Steps p.tables e below (s₁.setTop (entryFrame m #[.ref a, .ref b, .int (Int32.ofNat o), .int (Int32.ofNat len), .null] 6)) (T5.setTop (mkF m 30 #[.val (.ref a), .val (.ref b), .val (.int (Int32.ofNat o)), .val (.int (Int32.ofNat len)), .val .null, .unset] [.int z])) := c4.trans (st5 _ (Steps.refl _))
  have c7 : Steps p.tables e below (s₁.setTop (entryFrame m #[.ref a, .ref b, .int (Int32.ofNat o), .int (Int32.ofNat len), .null] 6)) (T5.setTop (mkF m 36 #[.val (.ref a), .val (.ref b), .val (.int (Int32.ofNat o)), .val (.int (Int32.ofNat len)), .val .null, .unset] [.int (Int32.ofNat len), .int (Int32.ofNat o), .ref b])) := c6.trans (by
    refine XS.ifNo X5.here hexec rfl (hb hbytes d30) rfl (i0_eq_f hz) ?_
    refine XS.aloadN X5.here hexec rfl (hb hbytes d33) rfl rfl ?_
    refine XS.iloadN X5.here hexec rfl (hb hbytes d34) rfl ?_
    refine XS.iloadN X5.here hexec rfl (hb hbytes d35) rfl ?_
    exact Steps.refl _)
  obtain ⟨v8, T8, X8, E8, g8⟩ := X5.callS hexec (Cmp3.law l b A o len) hown (wks W (staticW "java/lang/String" 177 Cmp3.yN)) (wk W Cmp3.tab) (W := 0) (Nat.le_of_ble_eq_true rfl) (Nat.le_of_ble_eq_true rfl) (Nat.le_refl _) (by show 0 + len ≤ len; omega) (g := (mkF m 36 #[.val (.ref a), .val (.ref b), .val (.int (Int32.ofNat o)), .val (.int (Int32.ofNat len)), .val .null, .unset] [.int (Int32.ofNat len), .int (Int32.ofNat o), .ref b])) rfl (by rw [hml]; rfl) c7 (argsL := [.ref b, .int (Int32.ofNat o), .int (Int32.ofNat len)]) (rest := []) rfl rfl (by show 2 * 0 + 0 ≤ _; decide) (hb hbytes d36) (⟨rfl, hA.mv X5.warmed.alike hh5, l1, l2, hp⟩)
  obtain ⟨e8, z8⟩ := E8
  obtain ⟨rfl, N, n1, n2, n3, n4, n5, n6⟩ := NewArr.mv _ T5 s _ _ hh5.symm (Vm.Alike.refl _) rfl e8
  rw [hh5] at z8
  have hB1 := hB.keep X8.warmed.alike (n6 _ _ hB.1)
  have hne : s.heap.size ≠ a := (Nat.ne_of_lt (Array.getElem?_eq_some_iff.mp hB.1).1).symm
  have c9 : Steps p.tables e below (s₁.setTop (entryFrame m #[.ref a, .ref b, .int (Int32.ofNat o), .int (Int32.ofNat len), .null] 6)) (T8.setTop (mkF m 39 #[.val (.ref a), .val (.ref b), .val (.int (Int32.ofNat o)), .val (.int (Int32.ofNat len)), .val .null, .unset] [.ref s.heap.size])) := g8
  have c10 : Steps p.tables e below (s₁.setTop (entryFrame m #[.ref a, .ref b, .int (Int32.ofNat o), .int (Int32.ofNat len), .null] 6)) (T8.setTop (mkF m 45 #[.val (.ref a), .val (.ref b), .val (.int (Int32.ofNat o)), .val (.int (Int32.ofNat len)), .val .null, .val (.ref s.heap.size)] [.int (Int32.ofNat N.slots.size), .ref s.heap.size, .ref a])) := by
    have hc : Steps p.tables e below (s₁.setTop (entryFrame m #[.ref a, .ref b, .int (Int32.ofNat o), .int (Int32.ofNat len), .null] 6)) (T8.setTop (mkF m 45 #[.val (.ref a), .val (.ref b), .val (.int (Int32.ofNat o)), .val (.int (Int32.ofNat len)), .val .null, .val (.ref s.heap.size)] [.int (Int32.ofNat len), .ref s.heap.size, .ref a])) := c9.trans (by
      refine XS.astore X8.here hexec rfl (hb hbytes d39) rfl rfl rfl ?_
      refine XS.aloadN X8.here hexec rfl (hb hbytes d41) rfl rfl ?_
      refine XS.aload X8.here hexec rfl (hb hbytes d42) rfl rfl ?_
      refine XS.iloadN X8.here hexec rfl (hb hbytes d44) rfl ?_
      exact Steps.refl _)
    rw [n4]; exact hc
  obtain ⟨v11, T11, X11, E11, g11⟩ := X8.callS hexec (CodL.law l s.heap.size N) hown (wks W (staticW "java/lang/String" 47 CodL.yN)) (wk W CodL.tab) (W := 1) (Nat.le_of_ble_eq_true rfl) (Nat.le_of_ble_eq_true rfl) (Nat.le_refl _) (by show 0 + len + 0 ≤ len; omega) (g := (mkF m 45 #[.val (.ref a), .val (.ref b), .val (.int (Int32.ofNat o)), .val (.int (Int32.ofNat len)), .val .null, .val (.ref s.heap.size)] [.int (Int32.ofNat N.slots.size), .ref s.heap.size, .ref a])) rfl (by rw [hml]; rfl) c10 (argsL := [.ref s.heap.size, .int (Int32.ofNat N.slots.size)]) (rest := [.ref a]) rfl rfl (by show 2 * 0 + (1 + 0) ≤ _; decide) (hb hbytes d45) (⟨rfl, n1⟩)
  obtain ⟨rfl, q11⟩ := E11
  have hB11 := hB1.mv (X8.warmed.alike.symm.trans X11.warmed.alike) q11
  have c12 : Steps p.tables e below (s₁.setTop (entryFrame m #[.ref a, .ref b, .int (Int32.ofNat o), .int (Int32.ofNat len), .null] 6)) (T11.setTop (mkF m 48 #[.val (.ref a), .val (.ref b), .val (.int (Int32.ofNat o)), .val (.int (Int32.ofNat len)), .val .null, .val (.ref s.heap.size)] [.int 0, .ref a])) := g11
  obtain ⟨T13, X13, p13, bl13, sl13, st13⟩ := X11.finit hexec hown (wk W (.fieldLink "java/lang/String" 15 "java/lang/String" "coder" "B")) (Or.inr ⟨_, (wk W (.laysFinal "java/lang/String" "java/lang/String" "coder" "B"))⟩) (Or.inl ⟨rfl, hnm⟩) f2 (Or.inl rfl) hB11 (t := .byte) (by decide +kernel) rfl (g := (mkF m 48 #[.val (.ref a), .val (.ref b), .val (.int (Int32.ofNat o)), .val (.int (Int32.ofNat len)), .val .null, .val (.ref s.heap.size)] [.int 0, .ref a])) rfl (rest := []) rfl (hb hbytes d48)
  have c14 : Steps p.tables e below (s₁.setTop (entryFrame m #[.ref a, .ref b, .int (Int32.ofNat o), .int (Int32.ofNat len), .null] 6)) (T13.setTop (mkF m 54 #[.val (.ref a), .val (.ref b), .val (.int (Int32.ofNat o)), .val (.int (Int32.ofNat len)), .val .null, .val (.ref s.heap.size)] [.ref s.heap.size, .ref a])) := (c12.trans (st13 _ (Steps.refl _))).trans (by
    refine XS.aloadN X13.here hexec rfl (hb hbytes d51) rfl rfl ?_
    refine XS.aload X13.here hexec rfl (hb hbytes d52) rfl rfl ?_
    exact Steps.refl _)
  obtain ⟨T15, X15, p15, bl15, sl15, st15⟩ := X13.finit hexec hown (wk W (.fieldLink "java/lang/String" 9 "java/lang/String" "value" "[B")) (Or.inr ⟨_, (wk W (.laysFinal "java/lang/String" "java/lang/String" "value" "[B"))⟩) (Or.inl ⟨rfl, hnm⟩) f1 (Or.inl rfl) bl13 (t := (.array .byte)) (by decide +kernel) rfl (g := (mkF m 54 #[.val (.ref a), .val (.ref b), .val (.int (Int32.ofNat o)), .val (.int (Int32.ofNat len)), .val .null, .val (.ref s.heap.size)] [.ref s.heap.size, .ref a])) rfl (rest := []) rfl (hb hbytes d54)
  have c16 : Steps p.tables e below (s₁.setTop (entryFrame m #[.ref a, .ref b, .int (Int32.ofNat o), .int (Int32.ofNat len), .null] 6)) (T15.setTop (mkF m 57 #[.val (.ref a), .val (.ref b), .val (.int (Int32.ofNat o)), .val (.int (Int32.ofNat len)), .val .null, .val (.ref s.heap.size)] [])) := c14.trans (st15 _ (Steps.refl _))
  have ap := apart (Or.inr ⟨_, (wk W (.laysFinal "java/lang/String" "java/lang/String" "value" "[B"))⟩) (Or.inr ⟨_, (wk W (.laysFinal "java/lang/String" "java/lang/String" "coder" "B"))⟩) f1 f2 (t₁ := .array .byte) (t₂ := .byte) (by decide +kernel) (by decide +kernel) (by decide)
  have al := X8.warmed.alike.symm.trans X15.warmed.alike
  have n7 : T11.heap[s.heap.size]? = some N := by rw [q11]; exact n1.1
  exact ⟨T15, none, _, _, _, X15, by simp, rfl, by omega, (fun _ => rfl), ⟨rfl, _, N, bl15, ((Same.refl D _).set _ (by simp)).set _ (by simp), sl15, (Cell.slots_setSlot_ne _ ap).trans sl13, n1.keep al (p15.other hne (p13.other hne n7)), n2, by rw [al.findClass]; exact n3, n4, n5, fun y c h1 h2 => p15.other h1 (p13.other h1 (by rw [q11]; exact n6 y c h2)), by rw [p15.2.2, p13.2.2, q11]; exact z8⟩, fun fs hl => c16.trans (X15.returnOut hexec hret (hb hbytes d57) hl)⟩
end New4
namespace New1
def yN : MethodName := ⟨"java/lang/String", "<init>", "([C)V"⟩
abbrev yB : ByteArray := jdk_42_method_3_code
theorem d0 : decode yB 0 = .ok (.aload_n 0, 1) := by decide +kernel
theorem d1 : decode yB 1 = .ok (.aload_n 1, 1) := by decide +kernel
theorem d2 : decode yB 2 = .ok (.iconst 0, 1) := by decide +kernel
theorem d3 : decode yB 3 = .ok (.aload_n 1, 1) := by decide +kernel
theorem d4 : decode yB 4 = .ok (.arraylength, 1) := by decide +kernel
theorem d5 : decode yB 5 = .ok (.aconst_null, 1) := by decide +kernel
theorem d6 : decode yB 6 = .ok (.invokespecial 27, 3) := by decide +kernel
theorem d9 : decode yB 9 = .ok (.return_, 1) := by decide +kernel
def site : List Cond := [New4.tab] ++ initW "java/lang/String" 27 New4.yN
def tab : Cond := tabOf yN yB 2 none site
def P (a : Addr) (D : Cell) (fV fC : Field) (b : Addr) (A : Cell) (z : Int32) (args : Array Value) (s : State) : Prop := args = #[.ref a, .ref b] ∧ Blank "java/lang/String" a D s ∧ Found "java/lang/String" "value" "[B" fV s ∧ Found "java/lang/String" "coder" "B" fC s ∧ Ch b A s ∧ StaticIs s "java/lang/String" "COMPACT_STRINGS" "Z" (.int z) ∧ ¬ z = 0 ∧ 0 < A.slots.size ∧ A.slots.size ≤ 536870912 ∧ ∀ i, i < A.slots.size → ¬ 255 < cv A i
def E (a : Addr) (D : Cell) (fV fC : Field) (A : Cell) (r : Option Value) (s u : State) : Prop := Got a D fV fC A 0 A.slots.size r s u
/-- new String(chars), not empty, no char above 255: a Latin-1 String of their low bytes -/
theorem law (l : Launch) (a : Addr) (D : Cell) (fV fC : Field) (b : Addr) (A : Cell) (z : Int32) : Law l yN 2 1 3 52 yB 2 none site (P a D fV fC b A z) (E a D fV fC A) [⟨a, fC.slot⟩, ⟨a, fV.slot⟩] 1 A.slots.size := by
  refine Law.of_walk (plainFor_of_name (by decide +kernel)) (by decide +kernel) (by decide +kernel) (by decide) (fun _ _ h => by rw [h.1]; rfl) (fun _ U U' hal hh h => ⟨h.1, h.2.1.mv hal hh, h.2.2.1.al hal, h.2.2.2.1.al hal, h.2.2.2.2.1.mv hal hh, h.2.2.2.2.2.1.there hal hh, h.2.2.2.2.2.2⟩) (fun r U U' V V' h1 hal h2 h => Got.mv r U U' V V' h1 hal h2 h) ?_
  intro p e s m args below meth c s₁ X0 hexec hbytes hml hret hlk hnm hown hh0 W hP
  obtain ⟨rfl, hB, f1, f2, hA, s1, hz, l0, l2, hp⟩ := hP
  have c1 : Steps p.tables e below (s₁.setTop (entryFrame m #[.ref a, .ref b] 2)) (s₁.setTop (mkF m 0 #[.val (.ref a), .val (.ref b)] [])) := entry rfl
  have c2 : Steps p.tables e below (s₁.setTop (entryFrame m #[.ref a, .ref b] 2)) (s₁.setTop (mkF m 6 #[.val (.ref a), .val (.ref b)] [.null, .int (Int32.ofNat A.slots.size), .int 0, .ref b, .ref a])) := c1.trans (by
    refine XS.aloadN X0.here hexec rfl (hb hbytes d0) rfl rfl ?_
    refine XS.aloadN X0.here hexec rfl (hb hbytes d1) rfl rfl ?_
    refine iconstV X0.here hexec rfl 0 (hb hbytes d2) (by decide) ?_
    refine XS.aloadN X0.here hexec rfl (hb hbytes d3) rfl rfl ?_
    refine X0.alen hexec (hA.1.mv X0.warmed.alike hh0) rfl rfl (hb hbytes d4) ?_
    refine XS.aconstNull X0.here hexec rfl (hb hbytes d5) ?_
    exact Steps.refl _)
  obtain ⟨v3, T3, X3, E3, g3⟩ := X0.callN hexec (New4.law l a D fV fC b A z 0 A.slots.size) rfl hown (wks W (initW "java/lang/String" 27 New4.yN)) (W New4.tab (by simp only [site, List.mem_cons, List.mem_append, true_or, or_true])) (W := 0) (Nat.le_of_ble_eq_true rfl) (Nat.le_of_ble_eq_true rfl) (Nat.le_refl _) (by show 0 + A.slots.size ≤ A.slots.size; omega) (g := (mkF m 6 #[.val (.ref a), .val (.ref b)] [.null, .int (Int32.ofNat A.slots.size), .int (Int32.ofNat 0), .ref b, .ref a])) rfl (by rw [hml]; rfl) c2 (argsL := [.ref b, .int (Int32.ofNat 0), .int (Int32.ofNat A.slots.size), .null]) (rest := []) rfl rfl (by show 2 * 0 + 0 ≤ _; decide) (hb hbytes d6) (⟨rfl, hB.mv X0.warmed.alike hh0, f1.al X0.warmed.alike, f2.al X0.warmed.alike, hA.mv X0.warmed.alike hh0, s1.there X0.warmed.alike hh0, hz, l0, by omega, l2, fun i hi => by rw [Nat.zero_add]; exact hp i hi⟩)
  have e0 := Got.mv _ s₁ s _ _ hh0.symm (Vm.Alike.refl _) rfl E3
  obtain rfl := e0.1
  have c4 : Steps p.tables e below (s₁.setTop (entryFrame m #[.ref a, .ref b] 2)) (T3.setTop (mkF m 9 #[.val (.ref a), .val (.ref b)] [])) := g3
  exact ⟨T3, none, _, _, _, X3, by simp, rfl, by omega, (fun _ => rfl), e0, fun fs hl => c4.trans (X3.returnOut hexec hret (hb hbytes d9) hl)⟩
theorem pays {l : Launch} {R : Room} {p : Program} {e : Env} {below : List Frame} {s : State} {sargs : Array Value} {len W : Nat} (a : Addr) (D : Cell) (fV fC : Field) (b : Addr) (A : Cell) (z : Int32) (htab : tab.before sargs s = true) (hfr : 4 ≤ R.frames) (hlo : W + 65 ≤ R.locals) :
    Back l R p e below s sargs yN len W (fun A₁ a₁ => A₁.cells + 1 ≤ R.cells ∧ A₁.slots + A.slots.size ≤ R.slots ∧ P a D fV fC b A z a₁ A₁.U) (fun A₁ _ v₁ B₁ => E a D fV fC A v₁ A₁.U B₁.U ∧ B₁.locs = A₁.locs ++ [⟨a, fC.slot⟩, ⟨a, fV.slot⟩] ∧ B₁.cells = A₁.cells + 1 ∧ B₁.slots = A₁.slots + A.slots.size) :=
  (law l a D fV fC b A z).pays htab hfr (by omega)
end New1
end StrChars
namespace StrChars.Road
open Jvm Sem ClassFile Op Lib Jvm.Stand Jvm.Free Jvm.Free.XT
open Jvm.Lib.Cold (StaticIs)
abbrev ST : String := "java/lang/String"
/-- every table word that New1's law asks, flat -/
abbrev words : List Jvm.Cond := [.code New1.yN New1.yB 2 none, .initialized ST, .methodLink ST 27 New4.yN, .instanceMethod New4.yN,
  .code New4.yN New4.yB 6 none, .fieldLink ST 38 ST "COMPACT_STRINGS" "Z", .laysFinal ST ST "value" "[B", .fieldLink ST 9 ST "value" "[B", .laysFinal ST ST "coder" "B", .fieldLink ST 15 ST "coder" "B",
  .methodLink ST 1 Lib.objectInit, .instanceMethod Lib.objectInit, .code Lib.objectInit ⟨#[0xb1]⟩ 1 none, .methodLink ST 177 Cmp3.yN, .static Cmp3.yN, .methodLink ST 47 CodL.yN, .static CodL.yN,
  .code Cmp3.yN Cmp3.yB 6 (some (.array .byte)), .initialized U16, .arrayClass .byte, .methodLink U16 115 Cmp5.yN, .static Cmp5.yN, .code Cmp5.yN Cmp5.yB 7 (some .int), .code CodL.yN CodL.yB 2 (some .byte)]
theorem tab_of {a : Array Value} {s : State} (h : ∀ w ∈ words, w.before a s = true) : New1.tab.before a s = true := by
  have h5 : Cmp5.tab.before a s = true := unparts (wk h (.code Cmp5.yN Cmp5.yB 7 (some .int))) (wks h (.initialized Cmp5.yN.cls :: Cmp5.site))
  have hc : CodL.tab.before a s = true := unparts (wk h (.code CodL.yN CodL.yB 2 (some .byte))) (wks h (.initialized CodL.yN.cls :: CodL.site))
  have q5 : ∀ w ∈ Cmp5.tab :: words, w.before a s = true := fun w hw => (List.mem_cons.mp hw).elim (fun e => e ▸ h5) (h w)
  have h3 : Cmp3.tab.before a s = true := unparts (wk q5 (.code Cmp3.yN Cmp3.yB 6 (some (.array .byte)))) (wks q5 (.initialized Cmp3.yN.cls :: Cmp3.site))
  have q3 : ∀ w ∈ Cmp3.tab :: CodL.tab :: words, w.before a s = true := fun w hw => (List.mem_cons.mp hw).elim (fun e => e ▸ h3) fun hw => (List.mem_cons.mp hw).elim (fun e => e ▸ hc) (h w)
  have h4 : New4.tab.before a s = true := unparts (wk q3 (.code New4.yN New4.yB 6 none)) (wks q3 (.initialized New4.yN.cls :: New4.site))
  have q4 : ∀ w ∈ New4.tab :: words, w.before a s = true := fun w hw => (List.mem_cons.mp hw).elim (fun e => e ▸ h4) (h w)
  exact unparts (wk q4 (.code New1.yN New1.yB 2 none)) (wks q4 (.initialized New1.yN.cls :: New1.site))
/-- the words ride from the start Z to the walk's own state -/
theorem moved {Z s : State} {a0 args : Array Value} (hZ : Z.Warmed39 s.vm) (hw : ∀ d ∈ words, d.before a0 Z = true) : ∀ d ∈ words, d.before args s = true := fun d hd => by
  have q := hw d hd
  have t : ∀ d ∈ words, d = .arrayClass .byte ∨ (d.onTables && d.keepsFace) = true := by decide +kernel
  rcases t d hd with rfl | t
  · exact RoadKit.mvA hZ q
  · exact RoadKit.mv hZ q t
/-- WHAT COMES BACK, over the tables of the start Z: h the heap at the call, h' behind it -/
def Q (Z : State) (x : Addr) (A : Cell) (h : Heap) (v : Option Value) (h' : Heap) (L : List Loc) : Prop := v = none ∧ (∀ y ∈ L, y.base = x) ∧ RoadKit.Keep h h' [x] ∧ h'.size = h.size + 1 ∧ RoadKit.Exa Z h' x ST ∧ RoadKit.Fld Z h' x ST "value" "[B" (.ref h.size) ∧ RoadKit.Fld Z h' x ST "coder" "B" (.int 0) ∧
  (∃ V : Cell, RoadKit.Arr Z h' h.size V .byte ∧ V.vm = .none ∧ Z.vm.findClass "[B" = some V.cls ∧ V.slots.size = A.slots.size ∧ ∀ j, j < A.slots.size → V.slots[j]? = some (.int (lo8 (cv A j)))) ∧
  ∀ (O n d : String) (w : Value), RoadKit.Fld Z h x O n d w → RoadKit.slotOf Z O n d ≠ RoadKit.slotOf Z ST "value" "[B" → RoadKit.slotOf Z O n d ≠ RoadKit.slotOf Z ST "coder" "B" → RoadKit.Fld Z h' x O n d w
/-- **new String(chars) AT A CALL, IN THE ROAD'S FORM**: for specialBack behind newO: x the fresh String, b the char[] with the cell A -/
theorem back {p : Program} {l : Launch} {e : Env} {R : Room} {s : State} {args : Array Value} {below : List Frame} {len W : Nat} {Z : State} {a0 : Array Value} {h : Heap} (hZ : Z.Warmed39 s.vm) (hw : ∀ d ∈ words, d.before a0 Z = true) {kI : Nat} (wi : (Jvm.Cond.instantiable ST kI).before a0 Z = true)
    {x b : Addr} {A : Cell} {z : Int32} {v0 c0 : Value} (E : RoadKit.Exa Z h x ST) (V : RoadKit.Fld Z h x ST "value" "[B" v0) (C : RoadKit.Fld Z h x ST "coder" "B" c0) (K : RoadKit.Arr Z h b A .char) (hty : Typed .char A) (S : RoadKit.Sta Z h ST "COMPACT_STRINGS" "Z" (.int z)) (hz : ¬ z = 0)
    (l0 : 0 < A.slots.size) (l2 : A.slots.size ≤ 536870912) (hp : ∀ i, i < A.slots.size → ¬ 255 < cv A i) (hfr : 4 ≤ R.frames) (hlo : W + 65 ≤ R.locals) :
    Back l R p e below s args New1.yN len W (fun P a => a = #[.ref x, .ref b] ∧ P.U.heap = h ∧ P.cells + 1 ≤ R.cells ∧ P.slots + A.slots.size ≤ R.slots)
      (fun P _ v B => ∃ L, Q Z x A h v B.U.heap L ∧ B.locs = P.locs ++ L ∧ B.cells = P.cells + 1 ∧ B.slots = P.slots + A.slots.size) := by
  intro m meth c P g ig mk a X hg hsize hdg hW hn hp'
  obtain ⟨rfl, rfl, r1, r2⟩ := hp'
  have al : Z.vm.Alike P.U.vm := hZ.alike.trans X.warmed.alike
  obtain ⟨D, cfV, kV, iV, fV, hD, gV, stV, knV, obV, asV, slV⟩ := id V
  obtain ⟨D', cfC, kC, iC, fC, hD', gC, stC, -, -, asC, slC⟩ := id C
  cases hD.symm.trans hD'
  obtain ⟨D2, kD, e1, e2, e3, e4, e5⟩ := id E
  cases hD.symm.trans e1
  obtain ⟨c2, k2, i1, i2, i3, -⟩ := Cond.instantiable_spec wi
  cases e2.symm.trans i1
  cases e3.symm.trans i2
  obtain ⟨kU, u1, u2⟩ := al.2.2 _ _ e3
  have hB : Blank ST x D P.U := ⟨hD, ⟨knV, fun q hq => by rw [hq] at obV; cases obV⟩, by rw [al.findClass]; exact e2, kU, u1, by rw [u2]; exact i3, by rw [u2]; exact e5 i3⟩
  have F1 : Found ST "value" "[B" fV P.U := ⟨SBG.found_only al ⟨cfV, kV, iV, gV⟩, stV⟩
  have F2 : Found ST "coder" "B" fC P.U := ⟨SBG.found_only al ⟨cfC, kC, iC, gC⟩, stC⟩
  have hA : Ch b A P.U := ⟨⟨K.1, State.isArrayOf_alike al K.2.1, K.2.2, by omega⟩, hty⟩
  have hS : StaticIs P.U ST "COMPACT_STRINGS" "Z" (.int z) := by
    obtain ⟨cfS, iS, kS, fS, st, cS, t1, t2, t3, t4, t5, t6, t7⟩ := S
    exact StaticIs.there (s := { Z with heap := P.U.heap }) ⟨cfS, iS, kS, fS, st, cS, t1, t2, t3, t4, t5, (fun q => by rw [q] at t6; cases t6), t7⟩ al rfl
  obtain ⟨v, B, X', ⟨⟨hv, E', V', q1, q2, q3, q4, q5, q6, q7, q8, q9, q10, q11⟩, hl, hc, hs⟩, st⟩ := New1.pays x D fV fC b A z (tab_of (moved hZ hw)) hfr hlo m meth c P g ig mk _ X hg hsize hdg hW hn ⟨r1, r2, rfl, hB, F1, F2, hA, hS, hz, l0, l2, hp⟩
  have al' : Z.vm.Alike B.U.vm := hZ.alike.trans X'.warmed.alike
  have hsz : E'.slots.size = D.slots.size := by
    obtain ⟨-, -, -, kB, w1, w2, w3⟩ := q1
    obtain ⟨kB', y1, y2⟩ := al'.2.2 _ _ e3
    rw [q2.2.1] at w1
    cases w1.symm.trans y1
    rw [w3, e5 i3, y2]
  refine ⟨v, B, X', ⟨_, ⟨hv, ?_, ⟨by omega, fun y cy hy hn' => q10 y cy (by simpa using hn') hy, fun y cy hy => ?_⟩, q11, ⟨E', _, q1.1, by rw [q2.2.1]; exact e2, by rw [q2.2.1]; exact e3, by rw [q2.1]; exact obV, fun _ => by rw [hsz]; exact e5 i3⟩,
    ⟨E', cfV, kV, iV, fV, q1.1, gV, stV, by rw [q2.1]; exact knV, by rw [q2.1]; exact obV, by rw [q2.2.1]; exact asV, q3⟩, ⟨E', cfC, kC, iC, fC, q1.1, gC, stC, by rw [q2.1]; exact knV, by rw [q2.1]; exact obV, by rw [q2.2.1]; exact asC, q4⟩,
    ⟨V', ⟨q5.1, State.isArrayOf_alike al'.symm q5.2.1, q5.2.2.1⟩, q6, by rw [← al'.findClass]; exact q7, q8, fun j hj => by have := q9 j hj; rwa [Nat.zero_add] at this⟩, fun O n d w F n1 n2 => ?_⟩, hl, hc, hs⟩, st⟩
  · intro y hy
    simp only [List.mem_cons, List.not_mem_nil, or_false] at hy
    rcases hy with rfl | rfl <;> rfl
  · by_cases q : y = x
    · subst q
      cases hD.symm.trans hy
      exact ⟨E', q1.1, q2.2.1, q2.1, hsz⟩
    · exact ⟨cy, q10 y cy q hy, rfl, rfl, rfl⟩
  · obtain ⟨D3, cf, k, i, f, g1, g2, g3, g4, g5, g6, g7⟩ := F
    cases hD.symm.trans g1
    simp only [RoadKit.slotOf, g2, gV, gC, Option.map_some, Option.getD_some] at n1 n2
    exact ⟨E', cf, k, i, f, q1.1, g2, g3, by rw [q2.1]; exact g4, by rw [q2.1]; exact g5, by rw [q2.2.1]; exact g6, by rw [q2.2.2 f.slot (by simp [n1, n2])]; exact g7⟩
end StrChars.Road
namespace StrChars.Road
open Jvm Sem ClassFile Op Lib Jvm.Stand Jvm.Free Jvm.Free.XT
/-- WHAT COMES BACK, the byte[] as a list of values -/
def QA (Z : State) (x : Addr) (zn : Int32) (cs : List Int32) (h : Heap) (v : Option Value) (h' : Heap) (L : List Loc) : Prop := v = none ∧ (∀ y ∈ L, y.base = x) ∧ RoadKit.Keep h h' [x] ∧ h'.size = h.size + 1 ∧ RoadKit.Exa Z h' x ST ∧ RoadKit.Fld Z h' x ST "value" "[B" (.ref h.size) ∧ RoadKit.Fld Z h' x ST "coder" "B" (.int 0) ∧
  (∃ kb, Z.vm.findClass "[B" = some kb ∧ RoadKit.Arv Z h' h.size kb .byte zn (cs.map fun c => .int (lo8 c)) (.int 0)) ∧
  ∀ (O n d : String) (w : Value), RoadKit.Fld Z h x O n d w → RoadKit.slotOf Z O n d ≠ RoadKit.slotOf Z ST "value" "[B" → RoadKit.slotOf Z O n d ≠ RoadKit.slotOf Z ST "coder" "B" → RoadKit.Fld Z h' x O n d w
/-- **new String(chars) AT A CALL, THE ARRAYS AS LISTS**: the char[] at b holds cs, not empty, no char above 255 -/
theorem backArv {p : Program} {l : Launch} {e : Env} {R : Room} {s : State} {args : Array Value} {below : List Frame} {len W : Nat} {Z : State} {a0 : Array Value} {h : Heap} (hZ : Z.Warmed39 s.vm) (hw : ∀ d ∈ words, d.before a0 Z = true) {kI : Nat} (wi : (Jvm.Cond.instantiable ST kI).before a0 Z = true)
    {x b : Addr} {k : ClassId} {zn z : Int32} {cs : List Int32} {dv v0 c0 : Value} (E : RoadKit.Exa Z h x ST) (V : RoadKit.Fld Z h x ST "value" "[B" v0) (C : RoadKit.Fld Z h x ST "coder" "B" c0) (K : RoadKit.Arv Z h b k .char zn (cs.map Value.int) dv) (S : RoadKit.Sta Z h ST "COMPACT_STRINGS" "Z" (.int z)) (hz : ¬ z = 0)
    (hlen : zn.toNatClampNeg = cs.length) (h0 : 0 < cs.length) (hbig : cs.length ≤ 536870912) (hall : ∀ c ∈ cs, ¬ 255 < c) (hfr : 4 ≤ R.frames) (hlo : W + 65 ≤ R.locals) :
    Back l R p e below s args New1.yN len W (fun P a => a = #[.ref x, .ref b] ∧ P.U.heap = h ∧ P.cells + 1 ≤ R.cells ∧ P.slots + cs.length ≤ R.slots)
      (fun P _ v B => ∃ L, QA Z x zn cs h v B.U.heap L ∧ B.locs = P.locs ++ L ∧ B.cells = P.cells + 1 ∧ B.slots = P.slots + cs.length) := by
  obtain ⟨A, K1, K2, K3, K4, K5, K6⟩ := K
  have e : A.slots.size = cs.length := K3.trans hlen
  have hat : ∀ (i : Nat) (hi : i < cs.length), A.slots[i]? = some (.int cs[i]) := fun i hi => by rw [K5 i (by omega)]; simp [List.getD_eq_getElem?_getD, hi]
  have hcv : ∀ (i : Nat) (hi : i < cs.length), cv A i = cs[i] := fun i hi => by unfold cv; rw [hat i hi]
  have hty : Typed .char A := fun i v hv => by
    have hi : i < A.slots.size := (Array.getElem?_eq_some_iff.mp hv).1
    have q := K5 i hi
    rw [hv] at q
    rw [Option.some.inj q]
    exact K6 i hi
  refine Back.mono (back hZ hw wi E V C K1 hty S hz (by omega) (by omega) (fun i hi => by rw [hcv i (by omega)]; exact hall _ (List.getElem_mem _)) hfr hlo) (fun P a hp => ⟨hp.1, hp.2.1, hp.2.2.1, by rw [e]; exact hp.2.2.2⟩) (fun P a v B hp hq => ?_)
  obtain ⟨L, ⟨q1, q2, q3, q4, q5, q6, q7, ⟨V', v1, v2, v3, v4, v5⟩, q9⟩, hl, hc, hs⟩ := hq
  refine ⟨L, ⟨q1, q2, q3, q4, q5, q6, q7, ⟨V'.cls, v3, V', v1, rfl, by rw [v4, e, hlen], K4, fun i hi => ?_, fun i hi => ?_⟩, q9⟩, hl, hc, by rw [hs, e]⟩
  · have hi' : i < cs.length := by omega
    rw [v5 i (by omega), hcv i hi']; simp [List.getD_eq_getElem?_getD, hi']
  · have hi' : i < cs.length := by omega
    simp only [List.getD_eq_getElem?_getD, List.getElem?_map, List.getElem?_eq_getElem hi', Option.map_some, Option.getD_some]
    exact fits_lo8 _
end StrChars.Road
namespace StrChars.Road
open Jvm Sem ClassFile Op Lib Jvm.Stand Jvm.Free Jvm.Free.XT
/-- WHAT COMES BACK, in the writer's own shape -/
def QV (Z : State) (x : Addr) (N : Int32) (bs : List Int32) (h : Heap) (n0 : Nat) (v : Option Value) (h' : Heap) (L : List Loc) : Prop := v = none ∧ RoadKit.Fr n0 L ∧ RoadKit.Keep h h' [x] ∧ RoadKit.Exa Z h' x ST ∧ RoadKit.Fld Z h' x ST "coder" "B" (.int 0) ∧
  ∃ (t : Addr) (kb : ClassId), n0 ≤ t ∧ h.size ≤ t ∧ ¬ t = x ∧ RoadKit.Fld Z h' x ST "value" "[B" (.ref t) ∧ RoadKit.Arv Z h' t kb .byte N (bs.map Value.int) (.int 0)
/-- **new String(chars) AT A CALL, FOR THE WRITER**: a char[] of n known ints, each 0 to 255 -/
theorem backV {p : Program} {l : Launch} {e : Env} {R : Room} {s : State} {args : Array Value} {below : List Frame} {len W : Nat} {Z : State} {a0 : Array Value} {h : Heap} (hZ : Z.Warmed39 s.vm) (hw : ∀ d ∈ words, d.before a0 Z = true) {kI : Nat} (wi : (Jvm.Cond.instantiable ST kI).before a0 Z = true)
    {x b : Addr} {kC : ClassId} {cs bs : List Int32} {d v0 c0 : Value} {z N : Int32} {n n0 : Nat} (hx0 : n0 ≤ x) (hh0 : n0 ≤ h.size) (E : RoadKit.Exa Z h x ST) (V : RoadKit.Fld Z h x ST "value" "[B" v0) (C : RoadKit.Fld Z h x ST "coder" "B" c0) (K : RoadKit.Arv Z h b kC .char N (cs.map Value.int) d) (S : RoadKit.Sta Z h ST "COMPACT_STRINGS" "Z" (.int z)) (hz : ¬ z = 0)
    (hn : cs.length = n) (hN : N = Int32.ofNat n) (l0 : 0 < n) (l2 : n ≤ 4000) (hp : ∀ c ∈ cs, ¬ c < 0 ∧ ¬ (255 : Int32) < c) (hb : bs = cs.map (fun c => c.toInt8.toInt32)) (hfr : 4 ≤ R.frames) (hlo : W + 65 ≤ R.locals) :
    Back l R p e below s args (⟨"java/lang/String", "<init>", "([C)V"⟩ : MethodName) len W (fun P a => a = #[.ref x, .ref b] ∧ P.U.heap = h ∧ P.cells + 1 ≤ R.cells ∧ P.slots + n ≤ R.slots)
      (fun P _ v B => ∃ L, QV Z x N bs h n0 v B.U.heap L ∧ B.locs = P.locs ++ L ∧ B.cells = P.cells + 1 ∧ B.slots = P.slots + n) := by
  subst hn hN hb
  refine Back.mono (backArv hZ hw wi E V C K S hz (n32 (by omega)) l0 (by omega) (fun c hc => (hp c hc).2) hfr hlo) (fun P a hp => hp) (fun P a v B hp hq => ?_)
  obtain ⟨L, ⟨q1, q2, q3, q4, q5, q6, q7, ⟨kb, v1, v2⟩, q9⟩, hl, hc, hs⟩ := hq
  exact ⟨L, ⟨q1, fun y hy => by rw [q2 y hy]; exact hx0, q3, q5, q7, h.size, kb, hh0, Nat.le_refl _, Nat.ne_of_gt E.lt, q6, by rw [List.map_map]; exact v2⟩, hl, hc, hs⟩
end StrChars.Road
end Jvm.Pilot.@@N@@

namespace Jvm.Pilot.@@N@@
open Jvm Jvm.ClassFile Sem Op Lib Jvm.Free Jvm.Stand Jvm.LawKit Jvm.RoadKit Bundle Jvm.Pilot.@@N@@.Jvm.D Jvm.OwnKit

theorem hws_new {a0 : Array Value} {Z : State} (hw : ∀ d ∈ tables_1, d.before a0 Z = true) : ∀ d ∈ StrChars.Road.words, d.before a0 Z = true := fun d hd => hw d ((by decide +kernel : ∀ d ∈ StrChars.Road.words, d ∈ tables_1) d hd)
theorem w_0 {a0 : Array Value} {Z : State} (hw : ∀ d ∈ tables_1, d.before a0 Z = true) : (Jvm.Cond.classLink "com/example/row_lease/rowlease/AssignedKeyGetPinLaw" (13 : Nat) "java/lang/String").before a0 Z = true := hw _ (List.mem_of_getElem? (i := 0) rfl)
theorem w_1 {a0 : Array Value} {Z : State} (hw : ∀ d ∈ tables_1, d.before a0 Z = true) : (Jvm.Cond.instantiable "java/lang/String" (4 : Nat)).before a0 Z = true := hw _ (List.mem_of_getElem? (i := 1) rfl)
theorem w_2 {a0 : Array Value} {Z : State} (hw : ∀ d ∈ tables_1, d.before a0 Z = true) : (Jvm.Cond.initialized "java/lang/String").before a0 Z = true := hw _ (List.mem_of_getElem? (i := 2) rfl)
theorem w_3 {a0 : Array Value} {Z : State} (hw : ∀ d ∈ tables_1, d.before a0 Z = true) : (Jvm.Cond.arrayClass Jvm.ClassFile.FieldType.char).before a0 Z = true := hw _ (List.mem_of_getElem? (i := 3) rfl)
theorem w_4 {a0 : Array Value} {Z : State} (hw : ∀ d ∈ tables_1, d.before a0 Z = true) : (Jvm.Cond.methodLink "com/example/row_lease/rowlease/AssignedKeyGetPinLaw" (15 : Nat) ({ cls := "java/lang/String", name := "<init>", desc := "([C)V" } : Jvm.MethodName)).before a0 Z = true := hw _ (List.mem_of_getElem? (i := 4) rfl)
theorem w_5 {a0 : Array Value} {Z : State} (hw : ∀ d ∈ tables_1, d.before a0 Z = true) : (Jvm.Cond.instanceMethod ({ cls := "java/lang/String", name := "<init>", desc := "([C)V" } : Jvm.MethodName)).before a0 Z = true := hw _ (List.mem_of_getElem? (i := 5) rfl)
theorem w_6 {a0 : Array Value} {Z : State} (hw : ∀ d ∈ tables_1, d.before a0 Z = true) : (Jvm.Cond.code ({ cls := "java/lang/String", name := "<init>", desc := "([C)V" } : Jvm.MethodName) jdk_42_method_3_code (2 : Nat) (Option.none : Option Jvm.ClassFile.FieldType)).before a0 Z = true := hw _ (List.mem_of_getElem? (i := 6) rfl)
theorem w_11 {a0 : Array Value} {Z : State} (hw : ∀ d ∈ tables_1, d.before a0 Z = true) : (Jvm.Cond.methodLink "java/lang/String" (1 : Nat) ({ cls := "java/lang/Object", name := "<init>", desc := "()V" } : Jvm.MethodName)).before a0 Z = true := hw _ (List.mem_of_getElem? (i := 11) rfl)
theorem w_12 {a0 : Array Value} {Z : State} (hw : ∀ d ∈ tables_1, d.before a0 Z = true) : (Jvm.Cond.instanceMethod ({ cls := "java/lang/Object", name := "<init>", desc := "()V" } : Jvm.MethodName)).before a0 Z = true := hw _ (List.mem_of_getElem? (i := 12) rfl)
theorem w_13 {a0 : Array Value} {Z : State} (hw : ∀ d ∈ tables_1, d.before a0 Z = true) : (Jvm.Cond.code ({ cls := "java/lang/Object", name := "<init>", desc := "()V" } : Jvm.MethodName) object_method_1_code (1 : Nat) (Option.none : Option Jvm.ClassFile.FieldType)).before a0 Z = true := hw _ (List.mem_of_getElem? (i := 13) rfl)
theorem w_14 {a0 : Array Value} {Z : State} (hw : ∀ d ∈ tables_1, d.before a0 Z = true) : (Jvm.Cond.fieldLink "java/lang/String" (38 : Nat) "java/lang/String" "COMPACT_STRINGS" "Z").before a0 Z = true := hw _ (List.mem_of_getElem? (i := 14) rfl)
theorem w_19 {a0 : Array Value} {Z : State} (hw : ∀ d ∈ tables_1, d.before a0 Z = true) : (Jvm.Cond.arrayClass Jvm.ClassFile.FieldType.byte).before a0 Z = true := hw _ (List.mem_of_getElem? (i := 19) rfl)
theorem w_26 {a0 : Array Value} {Z : State} (hw : ∀ d ∈ tables_1, d.before a0 Z = true) : (Jvm.Cond.fieldLink "java/lang/String" (15 : Nat) "java/lang/String" "coder" "B").before a0 Z = true := hw _ (List.mem_of_getElem? (i := 26) rfl)
theorem w_27 {a0 : Array Value} {Z : State} (hw : ∀ d ∈ tables_1, d.before a0 Z = true) : (Jvm.Cond.laysFinal "java/lang/String" "java/lang/String" "coder" "B").before a0 Z = true := hw _ (List.mem_of_getElem? (i := 27) rfl)
theorem w_28 {a0 : Array Value} {Z : State} (hw : ∀ d ∈ tables_1, d.before a0 Z = true) : (Jvm.Cond.fieldLink "java/lang/String" (9 : Nat) "java/lang/String" "value" "[B").before a0 Z = true := hw _ (List.mem_of_getElem? (i := 28) rfl)
theorem w_29 {a0 : Array Value} {Z : State} (hw : ∀ d ∈ tables_1, d.before a0 Z = true) : (Jvm.Cond.laysFinal "java/lang/String" "java/lang/String" "value" "[B").before a0 Z = true := hw _ (List.mem_of_getElem? (i := 29) rfl)
theorem w_30 {a0 : Array Value} {Z : State} (hw : ∀ d ∈ tables_1, d.before a0 Z = true) : (Jvm.Cond.methodLink "com/example/row_lease/rowlease/AssignedKeyGetPinLaw" (18 : Nat) ({ cls := "java/lang/String", name := "valueOf", desc := "(C)Ljava/lang/String;" } : Jvm.MethodName)).before a0 Z = true := hw _ (List.mem_of_getElem? (i := 30) rfl)
theorem w_31 {a0 : Array Value} {Z : State} (hw : ∀ d ∈ tables_1, d.before a0 Z = true) : (Jvm.Cond.static ({ cls := "java/lang/String", name := "valueOf", desc := "(C)Ljava/lang/String;" } : Jvm.MethodName)).before a0 Z = true := hw _ (List.mem_of_getElem? (i := 31) rfl)
theorem w_32 {a0 : Array Value} {Z : State} (hw : ∀ d ∈ tables_1, d.before a0 Z = true) : (Jvm.Cond.code ({ cls := "java/lang/String", name := "valueOf", desc := "(C)Ljava/lang/String;" } : Jvm.MethodName) jdk_42_method_139_code (1 : Nat) (Option.some (Jvm.ClassFile.FieldType.object "java/lang/String"))).before a0 Z = true := hw _ (List.mem_of_getElem? (i := 32) rfl)
theorem w_33 {a0 : Array Value} {Z : State} (hw : ∀ d ∈ tables_1, d.before a0 Z = true) : (Jvm.Cond.methodLink "java/lang/String" (1015 : Nat) ({ cls := "java/lang/StringLatin1", name := "canEncode", desc := "(C)Z" } : Jvm.MethodName)).before a0 Z = true := hw _ (List.mem_of_getElem? (i := 33) rfl)
theorem w_34 {a0 : Array Value} {Z : State} (hw : ∀ d ∈ tables_1, d.before a0 Z = true) : (Jvm.Cond.static ({ cls := "java/lang/StringLatin1", name := "canEncode", desc := "(C)Z" } : Jvm.MethodName)).before a0 Z = true := hw _ (List.mem_of_getElem? (i := 34) rfl)
theorem w_35 {a0 : Array Value} {Z : State} (hw : ∀ d ∈ tables_1, d.before a0 Z = true) : (Jvm.Cond.initialized "java/lang/StringLatin1").before a0 Z = true := hw _ (List.mem_of_getElem? (i := 35) rfl)
theorem w_36 {a0 : Array Value} {Z : State} (hw : ∀ d ∈ tables_1, d.before a0 Z = true) : (Jvm.Cond.code ({ cls := "java/lang/StringLatin1", name := "canEncode", desc := "(C)Z" } : Jvm.MethodName) jdk_43_method_3_code (1 : Nat) (Option.some Jvm.ClassFile.FieldType.boolean)).before a0 Z = true := hw _ (List.mem_of_getElem? (i := 36) rfl)
theorem w_37 {a0 : Array Value} {Z : State} (hw : ∀ d ∈ tables_1, d.before a0 Z = true) : (Jvm.Cond.classLink "java/lang/String" (10 : Nat) "java/lang/String").before a0 Z = true := hw _ (List.mem_of_getElem? (i := 37) rfl)
theorem w_38 {a0 : Array Value} {Z : State} (hw : ∀ d ∈ tables_1, d.before a0 Z = true) : (Jvm.Cond.methodLink "java/lang/String" (1018 : Nat) ({ cls := "java/lang/StringLatin1", name := "toBytes", desc := "(C)[B" } : Jvm.MethodName)).before a0 Z = true := hw _ (List.mem_of_getElem? (i := 38) rfl)
theorem w_39 {a0 : Array Value} {Z : State} (hw : ∀ d ∈ tables_1, d.before a0 Z = true) : (Jvm.Cond.static ({ cls := "java/lang/StringLatin1", name := "toBytes", desc := "(C)[B" } : Jvm.MethodName)).before a0 Z = true := hw _ (List.mem_of_getElem? (i := 39) rfl)
theorem w_40 {a0 : Array Value} {Z : State} (hw : ∀ d ∈ tables_1, d.before a0 Z = true) : (Jvm.Cond.code ({ cls := "java/lang/StringLatin1", name := "toBytes", desc := "(C)[B" } : Jvm.MethodName) jdk_43_method_46_code (1 : Nat) (Option.some (Jvm.ClassFile.FieldType.array Jvm.ClassFile.FieldType.byte))).before a0 Z = true := hw _ (List.mem_of_getElem? (i := 40) rfl)
theorem w_41 {a0 : Array Value} {Z : State} (hw : ∀ d ∈ tables_1, d.before a0 Z = true) : (Jvm.Cond.methodLink "java/lang/String" (209 : Nat) ({ cls := "java/lang/String", name := "<init>", desc := "([BB)V" } : Jvm.MethodName)).before a0 Z = true := hw _ (List.mem_of_getElem? (i := 41) rfl)
theorem w_42 {a0 : Array Value} {Z : State} (hw : ∀ d ∈ tables_1, d.before a0 Z = true) : (Jvm.Cond.instanceMethod ({ cls := "java/lang/String", name := "<init>", desc := "([BB)V" } : Jvm.MethodName)).before a0 Z = true := hw _ (List.mem_of_getElem? (i := 42) rfl)
theorem w_43 {a0 : Array Value} {Z : State} (hw : ∀ d ∈ tables_1, d.before a0 Z = true) : (Jvm.Cond.code ({ cls := "java/lang/String", name := "<init>", desc := "([BB)V" } : Jvm.MethodName) jdk_42_method_151_code (3 : Nat) (Option.none : Option Jvm.ClassFile.FieldType)).before a0 Z = true := hw _ (List.mem_of_getElem? (i := 43) rfl)
theorem w_44 {a0 : Array Value} {Z : State} (hw : ∀ d ∈ tables_1, d.before a0 Z = true) : (Jvm.Cond.classLink "com/example/row_lease/rowlease/AssignedKeyGetPinLaw" (21 : Nat) "com/example/row_lease/rowlease/AssignedKey").before a0 Z = true := hw _ (List.mem_of_getElem? (i := 44) rfl)
theorem w_45 {a0 : Array Value} {Z : State} (hw : ∀ d ∈ tables_1, d.before a0 Z = true) : (Jvm.Cond.instantiable "com/example/row_lease/rowlease/AssignedKey" (1 : Nat)).before a0 Z = true := hw _ (List.mem_of_getElem? (i := 45) rfl)
theorem w_46 {a0 : Array Value} {Z : State} (hw : ∀ d ∈ tables_1, d.before a0 Z = true) : (Jvm.Cond.initialized "com/example/row_lease/rowlease/AssignedKey").before a0 Z = true := hw _ (List.mem_of_getElem? (i := 46) rfl)
theorem w_47 {a0 : Array Value} {Z : State} (hw : ∀ d ∈ tables_1, d.before a0 Z = true) : (Jvm.Cond.methodLink "com/example/row_lease/rowlease/AssignedKeyGetPinLaw" (23 : Nat) ({ cls := "com/example/row_lease/rowlease/AssignedKey", name := "<init>", desc := "()V" } : Jvm.MethodName)).before a0 Z = true := hw _ (List.mem_of_getElem? (i := 47) rfl)
theorem w_48 {a0 : Array Value} {Z : State} (hw : ∀ d ∈ tables_1, d.before a0 Z = true) : (Jvm.Cond.instanceMethod ({ cls := "com/example/row_lease/rowlease/AssignedKey", name := "<init>", desc := "()V" } : Jvm.MethodName)).before a0 Z = true := hw _ (List.mem_of_getElem? (i := 48) rfl)
theorem w_49 {a0 : Array Value} {Z : State} (hw : ∀ d ∈ tables_1, d.before a0 Z = true) : (Jvm.Cond.code ({ cls := "com/example/row_lease/rowlease/AssignedKey", name := "<init>", desc := "()V" } : Jvm.MethodName) prog_1_method_1_code (1 : Nat) (Option.none : Option Jvm.ClassFile.FieldType)).before a0 Z = true := hw _ (List.mem_of_getElem? (i := 49) rfl)
theorem w_50 {a0 : Array Value} {Z : State} (hw : ∀ d ∈ tables_1, d.before a0 Z = true) : (Jvm.Cond.methodLink "com/example/row_lease/rowlease/AssignedKey" (1 : Nat) ({ cls := "java/lang/Object", name := "<init>", desc := "()V" } : Jvm.MethodName)).before a0 Z = true := hw _ (List.mem_of_getElem? (i := 50) rfl)
theorem w_51 {a0 : Array Value} {Z : State} (hw : ∀ d ∈ tables_1, d.before a0 Z = true) : (Jvm.Cond.methodLink "com/example/row_lease/rowlease/AssignedKeyGetPinLaw" (24 : Nat) ({ cls := "com/example/row_lease/rowlease/AssignedKey", name := "assign", desc := "(Ljava/lang/Object;)V" } : Jvm.MethodName)).before a0 Z = true := hw _ (List.mem_of_getElem? (i := 51) rfl)
theorem w_52 {a0 : Array Value} {Z : State} (hw : ∀ d ∈ tables_1, d.before a0 Z = true) : (Jvm.Cond.declares ({ cls := "com/example/row_lease/rowlease/AssignedKey", name := "assign", desc := "(Ljava/lang/Object;)V" } : Jvm.MethodName)).before a0 Z = true := hw _ (List.mem_of_getElem? (i := 52) rfl)
theorem w_53 {a0 : Array Value} {Z : State} (hw : ∀ d ∈ tables_1, d.before a0 Z = true) : (Jvm.Cond.instanceMethod ({ cls := "com/example/row_lease/rowlease/AssignedKey", name := "assign", desc := "(Ljava/lang/Object;)V" } : Jvm.MethodName)).before a0 Z = true := hw _ (List.mem_of_getElem? (i := 53) rfl)
theorem w_54 {a0 : Array Value} {Z : State} (hw : ∀ d ∈ tables_1, d.before a0 Z = true) : (Jvm.Cond.selects "com/example/row_lease/rowlease/AssignedKey" ({ cls := "com/example/row_lease/rowlease/AssignedKey", name := "assign", desc := "(Ljava/lang/Object;)V" } : Jvm.MethodName) ({ cls := "com/example/row_lease/rowlease/AssignedKey", name := "assign", desc := "(Ljava/lang/Object;)V" } : Jvm.MethodName)).before a0 Z = true := hw _ (List.mem_of_getElem? (i := 54) rfl)
theorem w_55 {a0 : Array Value} {Z : State} (hw : ∀ d ∈ tables_1, d.before a0 Z = true) : (Jvm.Cond.code ({ cls := "com/example/row_lease/rowlease/AssignedKey", name := "assign", desc := "(Ljava/lang/Object;)V" } : Jvm.MethodName) prog_1_method_3_code (2 : Nat) (Option.none : Option Jvm.ClassFile.FieldType)).before a0 Z = true := hw _ (List.mem_of_getElem? (i := 55) rfl)
theorem w_56 {a0 : Array Value} {Z : State} (hw : ∀ d ∈ tables_1, d.before a0 Z = true) : (Jvm.Cond.fieldLink "com/example/row_lease/rowlease/AssignedKey" (7 : Nat) "com/example/row_lease/rowlease/AssignedKey" "key" "Ljava/lang/Object;").before a0 Z = true := hw _ (List.mem_of_getElem? (i := 56) rfl)
theorem w_57 {a0 : Array Value} {Z : State} (hw : ∀ d ∈ tables_1, d.before a0 Z = true) : (Jvm.Cond.lays "com/example/row_lease/rowlease/AssignedKey" "com/example/row_lease/rowlease/AssignedKey" "key" "Ljava/lang/Object;").before a0 Z = true := hw _ (List.mem_of_getElem? (i := 57) rfl)
theorem w_58 {a0 : Array Value} {Z : State} (hw : ∀ d ∈ tables_1, d.before a0 Z = true) : (Jvm.Cond.methodLink "com/example/row_lease/rowlease/AssignedKeyGetPinLaw" (28 : Nat) ({ cls := "com/example/row_lease/rowlease/AssignedKey", name := "get", desc := "()Ljava/lang/Object;" } : Jvm.MethodName)).before a0 Z = true := hw _ (List.mem_of_getElem? (i := 58) rfl)
theorem w_59 {a0 : Array Value} {Z : State} (hw : ∀ d ∈ tables_1, d.before a0 Z = true) : (Jvm.Cond.declares ({ cls := "com/example/row_lease/rowlease/AssignedKey", name := "get", desc := "()Ljava/lang/Object;" } : Jvm.MethodName)).before a0 Z = true := hw _ (List.mem_of_getElem? (i := 59) rfl)
theorem w_60 {a0 : Array Value} {Z : State} (hw : ∀ d ∈ tables_1, d.before a0 Z = true) : (Jvm.Cond.instanceMethod ({ cls := "com/example/row_lease/rowlease/AssignedKey", name := "get", desc := "()Ljava/lang/Object;" } : Jvm.MethodName)).before a0 Z = true := hw _ (List.mem_of_getElem? (i := 60) rfl)
theorem w_61 {a0 : Array Value} {Z : State} (hw : ∀ d ∈ tables_1, d.before a0 Z = true) : (Jvm.Cond.selects "com/example/row_lease/rowlease/AssignedKey" ({ cls := "com/example/row_lease/rowlease/AssignedKey", name := "get", desc := "()Ljava/lang/Object;" } : Jvm.MethodName) ({ cls := "com/example/row_lease/rowlease/AssignedKey", name := "get", desc := "()Ljava/lang/Object;" } : Jvm.MethodName)).before a0 Z = true := hw _ (List.mem_of_getElem? (i := 61) rfl)
theorem w_62 {a0 : Array Value} {Z : State} (hw : ∀ d ∈ tables_1, d.before a0 Z = true) : (Jvm.Cond.code ({ cls := "com/example/row_lease/rowlease/AssignedKey", name := "get", desc := "()Ljava/lang/Object;" } : Jvm.MethodName) prog_1_method_2_code (1 : Nat) (Option.some (Jvm.ClassFile.FieldType.object "java/lang/Object"))).before a0 Z = true := hw _ (List.mem_of_getElem? (i := 62) rfl)
theorem w_63 {a0 : Array Value} {Z : State} (hw : ∀ d ∈ tables_1, d.before a0 Z = true) : (Jvm.Cond.methodLink "com/example/row_lease/rowlease/AssignedKeyGetPinLaw" (7 : Nat) ({ cls := "java/lang/Long", name := "valueOf", desc := "(J)Ljava/lang/Long;" } : Jvm.MethodName)).before a0 Z = true := hw _ (List.mem_of_getElem? (i := 63) rfl)
theorem w_64 {a0 : Array Value} {Z : State} (hw : ∀ d ∈ tables_1, d.before a0 Z = true) : (Jvm.Cond.static ({ cls := "java/lang/Long", name := "valueOf", desc := "(J)Ljava/lang/Long;" } : Jvm.MethodName)).before a0 Z = true := hw _ (List.mem_of_getElem? (i := 64) rfl)
theorem w_65 {a0 : Array Value} {Z : State} (hw : ∀ d ∈ tables_1, d.before a0 Z = true) : (Jvm.Cond.initialized "java/lang/Long").before a0 Z = true := hw _ (List.mem_of_getElem? (i := 65) rfl)
theorem w_66 {a0 : Array Value} {Z : State} (hw : ∀ d ∈ tables_1, d.before a0 Z = true) : (Jvm.Cond.code ({ cls := "java/lang/Long", name := "valueOf", desc := "(J)Ljava/lang/Long;" } : Jvm.MethodName) jdk_35_method_24_code (3 : Nat) (Option.some (Jvm.ClassFile.FieldType.object "java/lang/Long"))).before a0 Z = true := hw _ (List.mem_of_getElem? (i := 66) rfl)
theorem w_67 {a0 : Array Value} {Z : State} (hw : ∀ d ∈ tables_1, d.before a0 Z = true) : (Jvm.Cond.constantLong "java/lang/Long" (230 : Nat) (-128 : Int64)).before a0 Z = true := hw _ (List.mem_of_getElem? (i := 67) rfl)
theorem w_68 {a0 : Array Value} {Z : State} (hw : ∀ d ∈ tables_1, d.before a0 Z = true) : (Jvm.Cond.constantLong "java/lang/Long" (232 : Nat) (127 : Int64)).before a0 Z = true := hw _ (List.mem_of_getElem? (i := 68) rfl)
theorem w_69 {a0 : Array Value} {Z : State} (hw : ∀ d ∈ tables_1, d.before a0 Z = true) : (Jvm.Cond.fieldLink "java/lang/Long" (234 : Nat) "java/lang/Long$LongCache" "cache" "[Ljava/lang/Long;").before a0 Z = true := hw _ (List.mem_of_getElem? (i := 69) rfl)
theorem w_70 {a0 : Array Value} {Z : State} (hw : ∀ d ∈ tables_1, d.before a0 Z = true) : (Jvm.Cond.initialized "java/lang/Long$LongCache").before a0 Z = true := hw _ (List.mem_of_getElem? (i := 70) rfl)
theorem w_71 {a0 : Array Value} {Z : State} (hw : ∀ d ∈ tables_1, d.before a0 Z = true) : (Jvm.Cond.classLink "java/lang/Long" (1 : Nat) "java/lang/Long").before a0 Z = true := hw _ (List.mem_of_getElem? (i := 71) rfl)
theorem w_72 {a0 : Array Value} {Z : State} (hw : ∀ d ∈ tables_1, d.before a0 Z = true) : (Jvm.Cond.instantiable "java/lang/Long" (1 : Nat)).before a0 Z = true := hw _ (List.mem_of_getElem? (i := 72) rfl)
theorem w_73 {a0 : Array Value} {Z : State} (hw : ∀ d ∈ tables_1, d.before a0 Z = true) : (Jvm.Cond.methodLink "java/lang/Long" (240 : Nat) ({ cls := "java/lang/Long", name := "<init>", desc := "(J)V" } : Jvm.MethodName)).before a0 Z = true := hw _ (List.mem_of_getElem? (i := 73) rfl)
theorem w_74 {a0 : Array Value} {Z : State} (hw : ∀ d ∈ tables_1, d.before a0 Z = true) : (Jvm.Cond.instanceMethod ({ cls := "java/lang/Long", name := "<init>", desc := "(J)V" } : Jvm.MethodName)).before a0 Z = true := hw _ (List.mem_of_getElem? (i := 74) rfl)
theorem w_76 {a0 : Array Value} {Z : State} (hw : ∀ d ∈ tables_1, d.before a0 Z = true) : (Jvm.Cond.code ({ cls := "java/lang/Long", name := "<init>", desc := "(J)V" } : Jvm.MethodName) jdk_35_method_26_code (3 : Nat) (Option.none : Option Jvm.ClassFile.FieldType)).before a0 Z = true := hw _ (List.mem_of_getElem? (i := 76) rfl)
theorem w_77 {a0 : Array Value} {Z : State} (hw : ∀ d ∈ tables_1, d.before a0 Z = true) : (Jvm.Cond.methodLink "java/lang/Long" (270 : Nat) ({ cls := "java/lang/Number", name := "<init>", desc := "()V" } : Jvm.MethodName)).before a0 Z = true := hw _ (List.mem_of_getElem? (i := 77) rfl)
theorem w_78 {a0 : Array Value} {Z : State} (hw : ∀ d ∈ tables_1, d.before a0 Z = true) : (Jvm.Cond.instanceMethod ({ cls := "java/lang/Number", name := "<init>", desc := "()V" } : Jvm.MethodName)).before a0 Z = true := hw _ (List.mem_of_getElem? (i := 78) rfl)
theorem w_81 {a0 : Array Value} {Z : State} (hw : ∀ d ∈ tables_1, d.before a0 Z = true) : (Jvm.Cond.initialized "java/lang/Number").before a0 Z = true := hw _ (List.mem_of_getElem? (i := 81) rfl)
theorem w_82 {a0 : Array Value} {Z : State} (hw : ∀ d ∈ tables_1, d.before a0 Z = true) : (Jvm.Cond.code ({ cls := "java/lang/Number", name := "<init>", desc := "()V" } : Jvm.MethodName) jdk_18_method_1_code (1 : Nat) (Option.none : Option Jvm.ClassFile.FieldType)).before a0 Z = true := hw _ (List.mem_of_getElem? (i := 82) rfl)
theorem w_83 {a0 : Array Value} {Z : State} (hw : ∀ d ∈ tables_1, d.before a0 Z = true) : (Jvm.Cond.methodLink "java/lang/Number" (1 : Nat) ({ cls := "java/lang/Object", name := "<init>", desc := "()V" } : Jvm.MethodName)).before a0 Z = true := hw _ (List.mem_of_getElem? (i := 83) rfl)
theorem w_84 {a0 : Array Value} {Z : State} (hw : ∀ d ∈ tables_1, d.before a0 Z = true) : (Jvm.Cond.fieldLink "java/lang/Long" (273 : Nat) "java/lang/Long" "value" "J").before a0 Z = true := hw _ (List.mem_of_getElem? (i := 84) rfl)
theorem w_85 {a0 : Array Value} {Z : State} (hw : ∀ d ∈ tables_1, d.before a0 Z = true) : (Jvm.Cond.laysFinal "java/lang/Long" "java/lang/Long" "value" "J").before a0 Z = true := hw _ (List.mem_of_getElem? (i := 85) rfl)
theorem ef_numInit (m : MethodId) (x0 : Addr) : entryFrame m #[(.ref x0)] 1 = mkF m 0 #[.val (.ref x0)] [] := by first | rfl | (simp [entryFrame, mkF, argsToLocals, Value.category, maxLocals]; done)
theorem pn_java_lang_Number : plainName "java/lang/Number" = true := by first | (simp [plainName, overriddenIn]; done) | decide +kernel
theorem d0_0 : decode jdk_18_method_1_code 0 = .ok (.aload_n 0, 1) := by decide +kernel
theorem d0_1 : decode jdk_18_method_1_code 1 = .ok (.invokespecial 1, 3) := by decide +kernel
theorem d0_4 : decode jdk_18_method_1_code 4 = .ok (.return_, 1) := by decide +kernel
def Q_numInit (Z : State) (a : Addr) (h0 : Heap) (v : Option Value) (h : Heap) : Prop := v = none
set_option maxRecDepth 65536 in
set_option maxHeartbeats 40000000 in
theorem rm_numInit (l : Launch) (Z : State) (a0 : Array Value) (hw : ∀ d ∈ tables_1, d.before a0 Z = true) (wl : List Jvm.Cond) (zc : Int32) (la : Addr) (kla : ClassId) (lvs : List Value) (S_String_COMPACT_STRINGS : Sta Z Z.heap "java/lang/String" "COMPACT_STRINGS" "Z" (.int zc)) (hzc : ¬ (zc = (0 : Int32))) (S_Long_LongCache_cache : Sta Z Z.heap "java/lang/Long$LongCache" "cache" "[Ljava/lang/Long;" (.ref la)) (A_lcache : Arv Z Z.heap la kla (.object "java/lang/Long") (256 : Int32) lvs .null) (C_lcache : ∀ i, i < 256 → ∃ r, lvs.getD i .null = .ref r ∧ Exa Z Z.heap r "java/lang/Long") (a : Addr) (h0 : Heap) (n0 : Nat) (O0 : Old Z n0 h0)  :
    Met l (⟨"java/lang/Number", "<init>", "()V"⟩ : MethodName) jdk_18_method_1_code 1 none wl ({ frames := 1, cells := 0, slots := 0, locals := 12 } : Room) Z #[(.ref a)] h0 n0 [] (Q_numInit Z a h0) := by
  refine met_intro (own := "java/lang/Number") (nm := "<init>") pn_java_lang_Number rfl rfl O0 ?_
  intro p e s m below meth cC T0 X0
  refine Go.cast (ef_numInit m (a) ) ?_
  have n0le := X0.n0le
  refine o_aloadN (pc' := 1) (v := (.ref a)) X0 d0_0 rfl rfl rfl ?_
  refine o_initO (pc' := 4) (W := 0) X0 (w_83 hw) (w_12 hw) (w_13 hw) rfl (by decide) (Nat.le_of_eq rfl) (by decide) d0_1 rfl ?_
  intro T1 X2
  exact o_ret X2 d0_4 rfl (by decide) (by decide) rfl
theorem ef_longInit (m : MethodId) (x0 : Addr) (x1 : Int64) : entryFrame m #[(.ref x0), (.long x1)] 3 = mkF m 0 #[.val (.ref x0), .val (.long x1), .second] [] := by first | rfl | (simp [entryFrame, mkF, argsToLocals, Value.category, maxLocals]; done)
theorem pn_java_lang_Long : plainName "java/lang/Long" = true := by first | (simp [plainName, overriddenIn]; done) | decide +kernel
theorem d1_0 : decode jdk_35_method_26_code 0 = .ok (.aload_n 0, 1) := by decide +kernel
theorem d1_1 : decode jdk_35_method_26_code 1 = .ok (.invokespecial 270, 3) := by decide +kernel
theorem pd_0 : parseMethodDescriptor "()V" = some ⟨[], none⟩ := by decide +kernel
theorem d1_4 : decode jdk_35_method_26_code 4 = .ok (.aload_n 0, 1) := by decide +kernel
theorem d1_5 : decode jdk_35_method_26_code 5 = .ok (.lload_n 1, 1) := by decide +kernel
theorem d1_6 : decode jdk_35_method_26_code 6 = .ok (.putfield 273, 3) := by decide +kernel
theorem d1_9 : decode jdk_35_method_26_code 9 = .ok (.return_, 1) := by decide +kernel
def Q_longInit (Z : State) (a : Addr) (x : Int64) (u : Value) (h0 : Heap) (v : Option Value) (h : Heap) : Prop := v = none ∧ Exa Z h a "java/lang/Long" ∧ Fld Z h a "java/lang/Long" "value" "J" (.long x)
set_option maxRecDepth 65536 in
set_option maxHeartbeats 40000000 in
theorem rm_longInit (l : Launch) (Z : State) (a0 : Array Value) (hw : ∀ d ∈ tables_1, d.before a0 Z = true) (wl : List Jvm.Cond) (zc : Int32) (la : Addr) (kla : ClassId) (lvs : List Value) (S_String_COMPACT_STRINGS : Sta Z Z.heap "java/lang/String" "COMPACT_STRINGS" "Z" (.int zc)) (hzc : ¬ (zc = (0 : Int32))) (S_Long_LongCache_cache : Sta Z Z.heap "java/lang/Long$LongCache" "cache" "[Ljava/lang/Long;" (.ref la)) (A_lcache : Arv Z Z.heap la kla (.object "java/lang/Long") (256 : Int32) lvs .null) (C_lcache : ∀ i, i < 256 → ∃ r, lvs.getD i .null = .ref r ∧ Exa Z Z.heap r "java/lang/Long") (a : Addr) (x : Int64) (u : Value) (h0 : Heap) (n0 : Nat) (O0 : Old Z n0 h0) (F0_a : Exa Z h0 a "java/lang/Long") (F1_a_value : Fld Z h0 a "java/lang/Long" "value" "J" u) (n0_a : n0 ≤ a) :
    Met l (⟨"java/lang/Long", "<init>", "(J)V"⟩ : MethodName) jdk_35_method_26_code 3 none wl ({ frames := 2, cells := 0, slots := 0, locals := 24 } : Room) Z #[(.ref a), (.long x)] h0 n0 [a] (Q_longInit Z a x u h0) := by
  refine met_intro (own := "java/lang/Long") (nm := "<init>") pn_java_lang_Long rfl rfl O0 ?_
  intro p e s m below meth cC T0 X0
  refine Go.cast (ef_longInit m (a) (x) ) ?_
  have n0le := X0.n0le
  have lt_a : h0.size > a := F0_a.lt
  refine o_aloadN (pc' := 1) (v := (.ref a)) X0 d1_0 rfl rfl rfl ?_
  refine o_special (pc' := 4) (argsL := []) (rest := []) (b := a) (ws' := []) X0 rfl (w_77 hw) (w_78 hw) (w_82 hw) (by decide) (lenOf pd_0 rfl) (back_met (W := 0) (rm_numInit l Z a0 hw [] zc la kla lvs S_String_COMPACT_STRINGS hzc S_Long_LongCache_cache A_lcache C_lcache (a) h0 n0 X0.old ) X0 (w_82 hw) (w_81 hw) (by decide) (by decide)) d1_1 rfl rfl rfl (Nat.le_of_eq rfl) (by decide) (by decide) qq_fr all0 ?_
  rintro v1 T1 h1 L1 X1 ⟨-, -, Q1⟩ K1
  have z1 := K1.1
  obtain rfl := Q1
  show Go p.tables e below _ (T1.setTop (mkF m 4 #[.val (.ref a), .val (.long x), .second] []))
  refine o_aloadN (pc' := 5) (v := (.ref a)) X1 d1_4 rfl rfl rfl ?_
  refine o_lloadN (pc' := 6) (v := x) X1 d1_5 rfl rfl ?_
  have f2 := (F1_a_value.keep K1 nin0)
  have f3 := (F0_a.keep K1)
  refine o_putF (pc' := 9) (v' := (.long x)) (ty := .long) X1 (w_84 hw) Via.refl f2 f3 (Or.inr ⟨(w_85 hw), rfl, rfl⟩) (w_72 hw) (by decide) rfl rfl d1_6 rfl (by omega) (Or.inl (by simp)) ?_
  intro T4 h4 X4 W4
  have z4 := W4.size
  have f5 : Fld Z h4 a "java/lang/Long" "value" "J" (.long x) := f2.same W4
  have f6 := (f3.wr W4)
  exact o_ret X4 d1_9 rfl (by decide) (by decide) ⟨rfl, f6, f5⟩
theorem ef_longValueOf (m : MethodId) (x0 : Int64) : entryFrame m #[(.long x0)] 3 = mkF m 0 #[.val (.long x0), .second, .unset] [] := by first | rfl | (simp [entryFrame, mkF, argsToLocals, Value.category, maxLocals]; done)
theorem d2_0 : decode jdk_35_method_24_code 0 = .ok (.sipush 128, 3) := by decide +kernel
theorem d2_3 : decode jdk_35_method_24_code 3 = .ok (.istore_n 2, 1) := by decide +kernel
theorem d2_4 : decode jdk_35_method_24_code 4 = .ok (.lload_n 0, 1) := by decide +kernel
theorem d2_5 : decode jdk_35_method_24_code 5 = .ok (.ldc2_w 230, 3) := by decide +kernel
theorem d2_8 : decode jdk_35_method_24_code 8 = .ok (.lcmp, 1) := by decide +kernel
theorem d2_9 : decode jdk_35_method_24_code 9 = .ok (.ifCond .lt 22, 3) := by decide +kernel
theorem d2_31 : decode jdk_35_method_24_code 31 = .ok (.new 1, 3) := by decide +kernel
theorem d2_34 : decode jdk_35_method_24_code 34 = .ok (.dup, 1) := by decide +kernel
theorem d2_35 : decode jdk_35_method_24_code 35 = .ok (.lload_n 0, 1) := by decide +kernel
theorem d2_36 : decode jdk_35_method_24_code 36 = .ok (.invokespecial 240, 3) := by decide +kernel
theorem pd_1 : parseMethodDescriptor "(J)V" = some ⟨[.long], none⟩ := by decide +kernel
theorem d2_39 : decode jdk_35_method_24_code 39 = .ok (.areturn, 1) := by decide +kernel
theorem d2_12 : decode jdk_35_method_24_code 12 = .ok (.lload_n 0, 1) := by decide +kernel
theorem d2_13 : decode jdk_35_method_24_code 13 = .ok (.ldc2_w 232, 3) := by decide +kernel
theorem d2_16 : decode jdk_35_method_24_code 16 = .ok (.lcmp, 1) := by decide +kernel
theorem d2_17 : decode jdk_35_method_24_code 17 = .ok (.ifCond .gt 14, 3) := by decide +kernel
theorem d2_20 : decode jdk_35_method_24_code 20 = .ok (.getstatic 234, 3) := by decide +kernel
theorem d2_23 : decode jdk_35_method_24_code 23 = .ok (.lload_n 0, 1) := by decide +kernel
theorem d2_24 : decode jdk_35_method_24_code 24 = .ok (.l2i, 1) := by decide +kernel
theorem d2_25 : decode jdk_35_method_24_code 25 = .ok (.sipush 128, 3) := by decide +kernel
theorem d2_28 : decode jdk_35_method_24_code 28 = .ok (.iadd, 1) := by decide +kernel
theorem d2_29 : decode jdk_35_method_24_code 29 = .ok (.aaload, 1) := by decide +kernel
theorem d2_30 : decode jdk_35_method_24_code 30 = .ok (.areturn, 1) := by decide +kernel
def Q_longValueOf (Z : State) (x : Int64) (h0 : Heap) (v : Option Value) (h : Heap) : Prop := ∃ (r : Addr), v = some (.ref r) ∧ Exa Z h r "java/lang/Long"
set_option maxRecDepth 65536 in
set_option maxHeartbeats 40000000 in
theorem rm_longValueOf (l : Launch) (Z : State) (a0 : Array Value) (hw : ∀ d ∈ tables_1, d.before a0 Z = true) (wl : List Jvm.Cond) (zc : Int32) (la : Addr) (kla : ClassId) (lvs : List Value) (S_String_COMPACT_STRINGS : Sta Z Z.heap "java/lang/String" "COMPACT_STRINGS" "Z" (.int zc)) (hzc : ¬ (zc = (0 : Int32))) (S_Long_LongCache_cache : Sta Z Z.heap "java/lang/Long$LongCache" "cache" "[Ljava/lang/Long;" (.ref la)) (A_lcache : Arv Z Z.heap la kla (.object "java/lang/Long") (256 : Int32) lvs .null) (C_lcache : ∀ i, i < 256 → ∃ r, lvs.getD i .null = .ref r ∧ Exa Z Z.heap r "java/lang/Long") (x : Int64) (h0 : Heap) (n0 : Nat) (O0 : Old Z n0 h0)  :
    Met l (⟨"java/lang/Long", "valueOf", "(J)Ljava/lang/Long;"⟩ : MethodName) jdk_35_method_24_code 3 (some (.object "java/lang/Long")) wl ({ frames := 3, cells := 1, slots := 1, locals := 39 } : Room) Z #[(.long x)] h0 n0 [] (Q_longValueOf Z x h0) := by
  refine met_intro (own := "java/lang/Long") (nm := "valueOf") pn_java_lang_Long rfl rfl O0 ?_
  intro p e s m below meth cC T0 X0
  refine Go.cast (ef_longValueOf m (x) ) ?_
  have n0le := X0.n0le
  have Ac := A_lcache.ext X0.old.2
  refine o_sipush (pc' := 3) (v := (128 : Int32)) X0 d2_0 rfl (by decide) ?_
  refine o_istoreN (pc' := 4) (l' := #[.val (.long x), .second, .val (.int (128 : Int32))]) X0 d2_3 rfl rfl ?_
  refine o_lloadN (pc' := 5) (v := x) X0 d2_4 rfl rfl ?_
  refine o_ldcL (pc' := 8) (v := (-128 : Int64)) X0 (w_67 hw) d2_5 rfl ?_
  refine o_lcmp (pc' := 9) (v := (lcmpW x (-128 : Int64))) X0 d2_8 rfl rfl ?_
  by_cases hc1 : (lcmpW x (-128 : Int64)) < (0 : Int32)
  · refine o_ifYes (pc' := 31) X0 d2_9 (by decide) (by decide) ((if0 _ _).trans (tlt hc1).1) ?_
    refine o_new (pc' := 34) X0 (w_71 hw) (w_72 hw) (w_65 hw) d2_31 rfl (by decide) (by decide) ?_
    intro T2 h2 b2 X2 g2 l2 E2 A2 D2 U2
    have f3 : Fld Z h2 b2 "java/lang/Long" "value" "J" (.long (0 : Int64)) := D2 (Or.inr (w_85 hw)) (ty := .long) (by decide)
    refine o_dup (pc' := 35) X2 d2_34 rfl rfl ?_
    refine o_lloadN (pc' := 36) (v := x) X2 d2_35 rfl rfl ?_
    refine o_special (pc' := 39) (argsL := [(.long x)]) (rest := [(.ref b2)]) (b := b2) (ws' := [b2]) X2 rfl (w_73 hw) (w_74 hw) (w_76 hw) (by decide) (lenOf pd_1 rfl) (back_met (W := 1) (rm_longInit l Z a0 hw [] zc la kla lvs S_String_COMPACT_STRINGS hzc S_Long_LongCache_cache A_lcache C_lcache (b2) (x) ((.long (0 : Int64))) h2 n0 X2.old A2 f3 (by omega)) X2 (w_76 hw) (w_65 hw) (by decide) (by decide)) d2_36 rfl rfl rfl (Nat.le_of_eq rfl) (by decide) (by decide) qq_fr (allS ⟨by omega, (Or.inr (by omega))⟩ all0) ?_
    rintro v4 T4 h4 L4 X4 ⟨-, -, Q4⟩ K4
    have z4 := K4.1
    obtain ⟨rfl, q5, q6⟩ := Q4
    show Go p.tables e below _ (T4.setTop (mkF m 39 #[.val (.long x), .second, .val (.int (128 : Int32))] [(.ref b2)]))
    exact o_aret X4 d2_39 rfl rfl rfl (by decide) (by decide) ⟨b2, rfl, q5⟩
  · refine o_ifNo (pc' := 12) X0 d2_9 rfl ((if0 _ _).trans (flt hc1).1) ?_
    refine o_lloadN (pc' := 13) (v := x) X0 d2_12 rfl rfl ?_
    refine o_ldcL (pc' := 16) (v := (127 : Int64)) X0 (w_68 hw) d2_13 rfl ?_
    refine o_lcmp (pc' := 17) (v := (lcmpW x (127 : Int64))) X0 d2_16 rfl rfl ?_
    by_cases hc7 : (0 : Int32) < (lcmpW x (127 : Int64))
    · refine o_ifYes (pc' := 31) X0 d2_17 (by decide) (by decide) ((if0 _ _).trans (tlt hc7).2.2.1) ?_
      refine o_new (pc' := 34) X0 (w_71 hw) (w_72 hw) (w_65 hw) d2_31 rfl (by decide) (by decide) ?_
      intro T8 h8 b8 X8 g8 l8 E8 A8 D8 U8
      have f9 : Fld Z h8 b8 "java/lang/Long" "value" "J" (.long (0 : Int64)) := D8 (Or.inr (w_85 hw)) (ty := .long) (by decide)
      refine o_dup (pc' := 35) X8 d2_34 rfl rfl ?_
      refine o_lloadN (pc' := 36) (v := x) X8 d2_35 rfl rfl ?_
      refine o_special (pc' := 39) (argsL := [(.long x)]) (rest := [(.ref b8)]) (b := b8) (ws' := [b8]) X8 rfl (w_73 hw) (w_74 hw) (w_76 hw) (by decide) (lenOf pd_1 rfl) (back_met (W := 1) (rm_longInit l Z a0 hw [] zc la kla lvs S_String_COMPACT_STRINGS hzc S_Long_LongCache_cache A_lcache C_lcache (b8) (x) ((.long (0 : Int64))) h8 n0 X8.old A8 f9 (by omega)) X8 (w_76 hw) (w_65 hw) (by decide) (by decide)) d2_36 rfl rfl rfl (Nat.le_of_eq rfl) (by decide) (by decide) qq_fr (allS ⟨by omega, (Or.inr (by omega))⟩ all0) ?_
      rintro v10 T10 h10 L10 X10 ⟨-, -, Q10⟩ K10
      have z10 := K10.1
      obtain ⟨rfl, q11, q12⟩ := Q10
      show Go p.tables e below _ (T10.setTop (mkF m 39 #[.val (.long x), .second, .val (.int (128 : Int32))] [(.ref b8)]))
      exact o_aret X10 d2_39 rfl rfl rfl (by decide) (by decide) ⟨b8, rfl, q11⟩
    · refine o_ifNo (pc' := 20) X0 d2_17 rfl ((if0 _ _).trans (flt hc7).2.2.1) ?_
      refine o_getS (pc' := 23) X0 (w_69 hw) Via.refl (S_Long_LongCache_cache.ext X0.old.2) d2_20 rfl ?_
      intro T13 X14
      refine o_lloadN (pc' := 24) (v := x) X14 d2_23 rfl rfl ?_
      refine o_l2i (pc' := 25) (v := (x.toInt32)) X14 d2_24 rfl rfl ?_
      refine o_sipush (pc' := 28) (v := (128 : Int32)) X14 d2_25 rfl (by decide) ?_
      refine o_iadd (pc' := 29) (v := ((x.toInt32) + (128 : Int32))) X14 d2_28 rfl rfl ?_
      obtain ⟨r15, er15, Er15⟩ := C_lcache _ (own_placeL x hc1 hc7).2
      have Fr15 := Er15.ext X14.old.2
      refine o_aaload (pc' := 30) (v := (.ref r15)) X14 Ac rfl (own_placeL x hc1 hc7).1 er15 d2_29 rfl ?_
      exact o_aret X14 d2_30 rfl rfl rfl (by decide) (by decide) ⟨r15, rfl, Fr15⟩
theorem ef_canEnc (m : MethodId) (x0 : Int32) : entryFrame m #[(.int x0)] 1 = mkF m 0 #[.val (.int x0)] [] := by first | rfl | (simp [entryFrame, mkF, argsToLocals, Value.category, maxLocals]; done)
theorem pn_java_lang_StringLatin1 : plainName "java/lang/StringLatin1" = true := by first | (simp [plainName, overriddenIn]; done) | decide +kernel
theorem d3_0 : decode jdk_43_method_3_code 0 = .ok (.iload_n 0, 1) := by decide +kernel
theorem d3_1 : decode jdk_43_method_3_code 1 = .ok (.sipush 255, 3) := by decide +kernel
theorem d3_4 : decode jdk_43_method_3_code 4 = .ok (.if_icmp .gt 7, 3) := by decide +kernel
theorem d3_7 : decode jdk_43_method_3_code 7 = .ok (.iconst 1, 1) := by decide +kernel
theorem d3_8 : decode jdk_43_method_3_code 8 = .ok (.goto 4, 3) := by decide +kernel
theorem d3_12 : decode jdk_43_method_3_code 12 = .ok (.ireturn, 1) := by decide +kernel
def Q_canEnc (Z : State) (c : Int32) (h0 : Heap) (v : Option Value) (h : Heap) : Prop := v = some (.int (1 : Int32))
set_option maxRecDepth 65536 in
set_option maxHeartbeats 40000000 in
theorem rm_canEnc (l : Launch) (Z : State) (a0 : Array Value) (hw : ∀ d ∈ tables_1, d.before a0 Z = true) (wl : List Jvm.Cond) (zc : Int32) (la : Addr) (kla : ClassId) (lvs : List Value) (S_String_COMPACT_STRINGS : Sta Z Z.heap "java/lang/String" "COMPACT_STRINGS" "Z" (.int zc)) (hzc : ¬ (zc = (0 : Int32))) (S_Long_LongCache_cache : Sta Z Z.heap "java/lang/Long$LongCache" "cache" "[Ljava/lang/Long;" (.ref la)) (A_lcache : Arv Z Z.heap la kla (.object "java/lang/Long") (256 : Int32) lvs .null) (C_lcache : ∀ i, i < 256 → ∃ r, lvs.getD i .null = .ref r ∧ Exa Z Z.heap r "java/lang/Long") (c : Int32) (h0 : Heap) (n0 : Nat) (O0 : Old Z n0 h0) (rc : ¬ c < 0 ∧ ¬ (255 : Int32) < c) :
    Met l (⟨"java/lang/StringLatin1", "canEncode", "(C)Z"⟩ : MethodName) jdk_43_method_3_code 1 (some .boolean) wl ({ frames := 0, cells := 0, slots := 0, locals := 0 } : Room) Z #[(.int c)] h0 n0 [] (Q_canEnc Z c h0) := by
  refine met_intro (own := "java/lang/StringLatin1") (nm := "canEncode") pn_java_lang_StringLatin1 rfl rfl O0 ?_
  intro p e s m below meth cC T0 X0
  refine Go.cast (ef_canEnc m (c) ) ?_
  have n0le := X0.n0le
  refine o_iloadN (pc' := 1) (v := c) X0 d3_0 rfl rfl ?_
  refine o_sipush (pc' := 4) (v := (255 : Int32)) X0 d3_1 rfl (by decide) ?_
  refine o_icmpNo (pc' := 7) X0 d3_4 rfl (flt rc.2).2.2.1 ?_
  refine o_iconst (pc' := 8) (v := (1 : Int32)) X0 d3_7 rfl (by decide) ?_
  refine o_goto (pc' := 12) X0 d3_8 (by decide) (by decide) ?_
  exact o_nret (y := (1 : Int32)) (t := .boolean) X0 d3_12 rfl (by decide) (by simp) (by decide) (by decide) rfl
theorem ef_toBytesC (m : MethodId) (x0 : Int32) : entryFrame m #[(.int x0)] 1 = mkF m 0 #[.val (.int x0)] [] := by first | rfl | (simp [entryFrame, mkF, argsToLocals, Value.category, maxLocals]; done)
theorem d4_0 : decode jdk_43_method_46_code 0 = .ok (.iconst 1, 1) := by decide +kernel
theorem d4_1 : decode jdk_43_method_46_code 1 = .ok (.newarray .byte, 2) := by decide +kernel
theorem d4_3 : decode jdk_43_method_46_code 3 = .ok (.dup, 1) := by decide +kernel
theorem d4_4 : decode jdk_43_method_46_code 4 = .ok (.iconst 0, 1) := by decide +kernel
theorem d4_5 : decode jdk_43_method_46_code 5 = .ok (.iload_n 0, 1) := by decide +kernel
theorem d4_6 : decode jdk_43_method_46_code 6 = .ok (.i2b, 1) := by decide +kernel
theorem d4_7 : decode jdk_43_method_46_code 7 = .ok (.bastore, 1) := by decide +kernel
theorem d4_8 : decode jdk_43_method_46_code 8 = .ok (.areturn, 1) := by decide +kernel
def Q_toBytesC (Z : State) (c : Int32) (h0 : Heap) (v : Option Value) (h : Heap) : Prop := ∃ (b : Addr) (kb : ClassId), v = some (.ref b) ∧ Arv Z h b kb .byte (1 : Int32) (own_bs [c]) (.int (0 : Int32)) ∧ h0.size ≤ b ∧ h.size > b
set_option maxRecDepth 65536 in
set_option maxHeartbeats 40000000 in
theorem rm_toBytesC (l : Launch) (Z : State) (a0 : Array Value) (hw : ∀ d ∈ tables_1, d.before a0 Z = true) (wl : List Jvm.Cond) (zc : Int32) (la : Addr) (kla : ClassId) (lvs : List Value) (S_String_COMPACT_STRINGS : Sta Z Z.heap "java/lang/String" "COMPACT_STRINGS" "Z" (.int zc)) (hzc : ¬ (zc = (0 : Int32))) (S_Long_LongCache_cache : Sta Z Z.heap "java/lang/Long$LongCache" "cache" "[Ljava/lang/Long;" (.ref la)) (A_lcache : Arv Z Z.heap la kla (.object "java/lang/Long") (256 : Int32) lvs .null) (C_lcache : ∀ i, i < 256 → ∃ r, lvs.getD i .null = .ref r ∧ Exa Z Z.heap r "java/lang/Long") (c : Int32) (h0 : Heap) (n0 : Nat) (O0 : Old Z n0 h0)  :
    Met l (⟨"java/lang/StringLatin1", "toBytes", "(C)[B"⟩ : MethodName) jdk_43_method_46_code 1 (some (.array .byte)) wl ({ frames := 0, cells := 1, slots := 1, locals := 0 } : Room) Z #[(.int c)] h0 n0 [] (Q_toBytesC Z c h0) := by
  refine met_intro (own := "java/lang/StringLatin1") (nm := "toBytes") pn_java_lang_StringLatin1 rfl rfl O0 ?_
  intro p e s m below meth cC T0 X0
  refine Go.cast (ef_toBytesC m (c) ) ?_
  have n0le := X0.n0le
  refine o_iconst (pc' := 1) (v := (1 : Int32)) X0 d4_0 rfl (by decide) ?_
  refine o_newP (pc' := 3) (aty := .byte) (cap := 1) X0 (w_19 hw) d4_1 rfl (by decide) (by decide) (by decide) (by decide) (by decide) (ad := "[B") (by decide +kernel) ?_
  intro T1 h1 b1 k1 X1 g1 l1 E1 V1 A1
  have V2 : Arv Z h1 b1 k1 .byte (1 : Int32) [(.int (0 : Int32))] (.int (0 : Int32)) := V1.pad (pad_rep [] (.int (0 : Int32)) 1)
  refine o_dup (pc' := 4) X1 d4_3 rfl rfl ?_
  refine o_iconst (pc' := 5) (v := (0 : Int32)) X1 d4_4 rfl (by decide) ?_
  refine o_iloadN (pc' := 6) (v := c) X1 d4_5 rfl rfl ?_
  refine o_i2b (pc' := 7) (v := (c.toInt8.toInt32)) X1 d4_6 rfl rfl ?_
  refine o_stB (pc' := 8) (i := 0) (y := (c.toInt8.toInt32)) X1 V2 ⟨by decide, by decide⟩ (by decide) (Nat.le_of_ble_eq_true rfl) (own_narB _) d4_7 rfl (by omega) (Or.inr (by omega)) ?_
  rintro T3 h3 X3 ⟨sl3, ww3, W3⟩ V3
  have z3 := W3.size
  have V4 : Arv Z h3 b1 k1 .byte (1 : Int32) [(.int (c.toInt8.toInt32))] (.int (0 : Int32)) := V3
  exact o_aret X3 d4_8 rfl rfl rfl (by decide) (by decide) ⟨b1, k1, rfl, V4, (by omega), (by omega)⟩
theorem ef_strInitB (m : MethodId) (x0 : Addr) (x1 : Addr) (x2 : Int32) : entryFrame m #[(.ref x0), (.ref x1), (.int x2)] 3 = mkF m 0 #[.val (.ref x0), .val (.ref x1), .val (.int x2)] [] := by first | rfl | (simp [entryFrame, mkF, argsToLocals, Value.category, maxLocals]; done)
theorem pn_java_lang_String : plainName "java/lang/String" = true := by first | (simp [plainName, overriddenIn]; done) | decide +kernel
theorem d5_0 : decode jdk_42_method_151_code 0 = .ok (.aload_n 0, 1) := by decide +kernel
theorem d5_1 : decode jdk_42_method_151_code 1 = .ok (.invokespecial 1, 3) := by decide +kernel
theorem d5_4 : decode jdk_42_method_151_code 4 = .ok (.aload_n 0, 1) := by decide +kernel
theorem d5_5 : decode jdk_42_method_151_code 5 = .ok (.aload_n 1, 1) := by decide +kernel
theorem d5_6 : decode jdk_42_method_151_code 6 = .ok (.putfield 9, 3) := by decide +kernel
theorem d5_9 : decode jdk_42_method_151_code 9 = .ok (.aload_n 0, 1) := by decide +kernel
theorem d5_10 : decode jdk_42_method_151_code 10 = .ok (.iload_n 2, 1) := by decide +kernel
theorem d5_11 : decode jdk_42_method_151_code 11 = .ok (.putfield 15, 3) := by decide +kernel
theorem d5_14 : decode jdk_42_method_151_code 14 = .ok (.return_, 1) := by decide +kernel
def Q_strInitB (Z : State) (a : Addr) (t : Addr) (u1 : Value) (u2 : Value) (h0 : Heap) (v : Option Value) (h : Heap) : Prop := v = none ∧ Exa Z h a "java/lang/String" ∧ Fld Z h a "java/lang/String" "value" "[B" (.ref t) ∧ Fld Z h a "java/lang/String" "coder" "B" (.int (0 : Int32))
set_option maxRecDepth 65536 in
set_option maxHeartbeats 40000000 in
theorem rm_strInitB (l : Launch) (Z : State) (a0 : Array Value) (hw : ∀ d ∈ tables_1, d.before a0 Z = true) (wl : List Jvm.Cond) (zc : Int32) (la : Addr) (kla : ClassId) (lvs : List Value) (S_String_COMPACT_STRINGS : Sta Z Z.heap "java/lang/String" "COMPACT_STRINGS" "Z" (.int zc)) (hzc : ¬ (zc = (0 : Int32))) (S_Long_LongCache_cache : Sta Z Z.heap "java/lang/Long$LongCache" "cache" "[Ljava/lang/Long;" (.ref la)) (A_lcache : Arv Z Z.heap la kla (.object "java/lang/Long") (256 : Int32) lvs .null) (C_lcache : ∀ i, i < 256 → ∃ r, lvs.getD i .null = .ref r ∧ Exa Z Z.heap r "java/lang/Long") (a : Addr) (t : Addr) (u1 : Value) (u2 : Value) (h0 : Heap) (n0 : Nat) (O0 : Old Z n0 h0) (F0_a : Exa Z h0 a "java/lang/String") (F1_a_value : Fld Z h0 a "java/lang/String" "value" "[B" u1) (F2_a_coder : Fld Z h0 a "java/lang/String" "coder" "B" u2) (n0_a : n0 ≤ a) :
    Met l (⟨"java/lang/String", "<init>", "([BB)V"⟩ : MethodName) jdk_42_method_151_code 3 none wl ({ frames := 1, cells := 0, slots := 0, locals := 12 } : Room) Z #[(.ref a), (.ref t), (.int (0 : Int32))] h0 n0 [a] (Q_strInitB Z a t u1 u2 h0) := by
  refine met_intro (own := "java/lang/String") (nm := "<init>") pn_java_lang_String rfl rfl O0 ?_
  intro p e s m below meth cC T0 X0
  refine Go.cast (ef_strInitB m (a) (t) ((0 : Int32)) ) ?_
  have n0le := X0.n0le
  have lt_a : h0.size > a := F0_a.lt
  refine o_aloadN (pc' := 1) (v := (.ref a)) X0 d5_0 rfl rfl rfl ?_
  refine o_initO (pc' := 4) (W := 0) X0 (w_11 hw) (w_12 hw) (w_13 hw) rfl (by decide) (Nat.le_of_eq rfl) (by decide) d5_1 rfl ?_
  intro T1 X2
  refine o_aloadN (pc' := 5) (v := (.ref a)) X2 d5_4 rfl rfl rfl ?_
  refine o_aloadN (pc' := 6) (v := (.ref t)) X2 d5_5 rfl rfl rfl ?_
  refine o_putF (pc' := 9) (v' := (.ref t)) (ty := (.array .byte)) X2 (w_28 hw) Via.refl F1_a_value F0_a (Or.inr ⟨(w_29 hw), rfl, rfl⟩) (w_1 hw) (by decide) rfl rfl d5_6 rfl (by omega) (Or.inl (by simp)) ?_
  intro T3 h3 X3 W3
  have z3 := W3.size
  have f4 : Fld Z h3 a "java/lang/String" "value" "[B" (.ref t) := F1_a_value.same W3
  refine o_aloadN (pc' := 10) (v := (.ref a)) X3 d5_9 rfl rfl rfl ?_
  refine o_iloadN (pc' := 11) (v := (0 : Int32)) X3 d5_10 rfl rfl ?_
  have f5 := (F2_a_coder.other W3 (Or.inr (slot_ne (Or.inr (w_27 hw)) (Or.inr (w_29 hw)) (by decide) (t := .byte) (t' := (.array .byte)) (by decide) (by decide))))
  have f6 := (F0_a.wr W3)
  refine o_putF (pc' := 14) (v' := (.int (0 : Int32))) (ty := .byte) X3 (w_26 hw) Via.refl f5 f6 (Or.inr ⟨(w_27 hw), rfl, rfl⟩) (w_1 hw) (by decide) rfl rfl d5_11 rfl (by omega) (Or.inl (by simp)) ?_
  intro T7 h7 X7 W7
  have z7 := W7.size
  have f8 : Fld Z h7 a "java/lang/String" "coder" "B" (.int (0 : Int32)) := f5.same W7
  have f9 := (f6.wr W7)
  have f10 := (f4.other W7 (Or.inr (slot_ne (Or.inr (w_29 hw)) (Or.inr (w_27 hw)) (by decide) (t := (.array .byte)) (t' := .byte) (by decide) (by decide))))
  exact o_ret X7 d5_14 rfl (by decide) (by decide) ⟨rfl, f9, f10, f8⟩
theorem ef_strValueOfC (m : MethodId) (x0 : Int32) : entryFrame m #[(.int x0)] 1 = mkF m 0 #[.val (.int x0)] [] := by first | rfl | (simp [entryFrame, mkF, argsToLocals, Value.category, maxLocals]; done)
theorem d6_0 : decode jdk_42_method_139_code 0 = .ok (.getstatic 38, 3) := by decide +kernel
theorem d6_3 : decode jdk_42_method_139_code 3 = .ok (.ifCond .eq 23, 3) := by decide +kernel
theorem d6_6 : decode jdk_42_method_139_code 6 = .ok (.iload_n 0, 1) := by decide +kernel
theorem d6_7 : decode jdk_42_method_139_code 7 = .ok (.invokestatic 1015, 3) := by decide +kernel
theorem pd_2 : parseMethodDescriptor "(C)Z" = some ⟨[.char], (some .boolean)⟩ := by decide +kernel
theorem d6_10 : decode jdk_42_method_139_code 10 = .ok (.ifCond .eq 16, 3) := by decide +kernel
theorem d6_13 : decode jdk_42_method_139_code 13 = .ok (.new 10, 3) := by decide +kernel
theorem d6_16 : decode jdk_42_method_139_code 16 = .ok (.dup, 1) := by decide +kernel
theorem d6_17 : decode jdk_42_method_139_code 17 = .ok (.iload_n 0, 1) := by decide +kernel
theorem d6_18 : decode jdk_42_method_139_code 18 = .ok (.invokestatic 1018, 3) := by decide +kernel
theorem pd_3 : parseMethodDescriptor "(C)[B" = some ⟨[.char], (some (.array .byte))⟩ := by decide +kernel
theorem d6_21 : decode jdk_42_method_139_code 21 = .ok (.iconst 0, 1) := by decide +kernel
theorem d6_22 : decode jdk_42_method_139_code 22 = .ok (.invokespecial 209, 3) := by decide +kernel
theorem pd_4 : parseMethodDescriptor "([BB)V" = some ⟨[(.array .byte), .byte], none⟩ := by decide +kernel
theorem d6_25 : decode jdk_42_method_139_code 25 = .ok (.areturn, 1) := by decide +kernel
def Q_strValueOfC (Z : State) (c : Int32) (h0 : Heap) (v : Option Value) (h : Heap) : Prop := ∃ (r : Addr) (t : Addr) (kb : ClassId), v = some (.ref r) ∧ Exa Z h r "java/lang/String" ∧ Fld Z h r "java/lang/String" "coder" "B" (.int (0 : Int32)) ∧ Fld Z h r "java/lang/String" "value" "[B" (.ref t) ∧ Arv Z h t kb .byte (1 : Int32) (own_bs [c]) (.int (0 : Int32)) ∧ h0.size ≤ r ∧ h0.size ≤ t ∧ h.size > r ∧ h.size > t
set_option maxRecDepth 65536 in
set_option maxHeartbeats 40000000 in
theorem rm_strValueOfC (l : Launch) (Z : State) (a0 : Array Value) (hw : ∀ d ∈ tables_1, d.before a0 Z = true) (wl : List Jvm.Cond) (zc : Int32) (la : Addr) (kla : ClassId) (lvs : List Value) (S_String_COMPACT_STRINGS : Sta Z Z.heap "java/lang/String" "COMPACT_STRINGS" "Z" (.int zc)) (hzc : ¬ (zc = (0 : Int32))) (S_Long_LongCache_cache : Sta Z Z.heap "java/lang/Long$LongCache" "cache" "[Ljava/lang/Long;" (.ref la)) (A_lcache : Arv Z Z.heap la kla (.object "java/lang/Long") (256 : Int32) lvs .null) (C_lcache : ∀ i, i < 256 → ∃ r, lvs.getD i .null = .ref r ∧ Exa Z Z.heap r "java/lang/Long") (c : Int32) (h0 : Heap) (n0 : Nat) (O0 : Old Z n0 h0) (rc : ¬ c < 0 ∧ ¬ (255 : Int32) < c) :
    Met l (⟨"java/lang/String", "valueOf", "(C)Ljava/lang/String;"⟩ : MethodName) jdk_42_method_139_code 1 (some (.object "java/lang/String")) wl ({ frames := 2, cells := 2, slots := 5, locals := 27 } : Room) Z #[(.int c)] h0 n0 [] (Q_strValueOfC Z c h0) := by
  refine met_intro (own := "java/lang/String") (nm := "valueOf") pn_java_lang_String rfl rfl O0 ?_
  intro p e s m below meth cC T0 X0
  refine Go.cast (ef_strValueOfC m (c) ) ?_
  have n0le := X0.n0le
  refine o_getS (pc' := 3) X0 (w_14 hw) Via.refl (S_String_COMPACT_STRINGS.ext X0.old.2) d6_0 rfl ?_
  intro T1 X2
  refine o_ifNo (pc' := 6) X2 d6_3 rfl ((if0 _ _).trans (feq hzc).1) ?_
  refine o_iloadN (pc' := 7) (v := c) X2 d6_6 rfl rfl ?_
  refine o_static (pc' := 10) (argsL := [(.int c)]) (rest := []) (ws' := []) X2 (w_33 hw) (w_34 hw) (w_35 hw) (w_36 hw) (by decide) (lenOf pd_2 rfl) (back_met (W := 0) (rm_canEnc l Z a0 hw [] zc la kla lvs S_String_COMPACT_STRINGS hzc S_Long_LongCache_cache A_lcache C_lcache (c) h0 n0 X2.old rc) X2 (w_36 hw) (w_35 hw) (by decide) (by decide)) d6_7 rfl rfl rfl (Nat.le_of_eq rfl) (by decide) (by decide) qq_fr all0 ?_
  rintro v3 T3 h3 L3 X3 ⟨-, -, Q3⟩ K3
  have z3 := K3.1
  obtain rfl := Q3
  show Go p.tables e below _ (T3.setTop (mkF m 10 #[.val (.int c)] [(.int (1 : Int32))]))
  refine o_ifNo (pc' := 13) X3 d6_10 rfl ((if0 _ _).trans (feq (by decide)).1) ?_
  refine o_new (pc' := 16) X3 (w_37 hw) (w_1 hw) (w_2 hw) d6_13 rfl (by decide) (by decide) ?_
  intro T4 h4 b4 X4 g4 l4 E4 A4 D4 U4
  have f5 : Fld Z h4 b4 "java/lang/String" "coder" "B" (.int (0 : Int32)) := D4 (Or.inr (w_27 hw)) (ty := .byte) (by decide)
  have f6 : Fld Z h4 b4 "java/lang/String" "value" "[B" .null := D4 (Or.inr (w_29 hw)) (ty := (.array .byte)) (by decide)
  refine o_dup (pc' := 17) X4 d6_16 rfl rfl ?_
  refine o_iloadN (pc' := 18) (v := c) X4 d6_17 rfl rfl ?_
  refine o_static (pc' := 21) (argsL := [(.int c)]) (rest := [(.ref b4), (.ref b4)]) (ws' := []) X4 (w_38 hw) (w_39 hw) (w_35 hw) (w_40 hw) (by decide) (lenOf pd_3 rfl) (back_met (W := 2) (rm_toBytesC l Z a0 hw [] zc la kla lvs S_String_COMPACT_STRINGS hzc S_Long_LongCache_cache A_lcache C_lcache (c) h4 n0 X4.old ) X4 (w_40 hw) (w_35 hw) (by decide) (by decide)) d6_18 rfl rfl rfl (Nat.le_of_eq rfl) (by decide) (by decide) qq_fr all0 ?_
  rintro v7 T7 h7 L7 X7 ⟨-, -, Q7⟩ K7
  have z7 := K7.1
  obtain ⟨b_8, kb_9, rfl, q10, q11, q12⟩ := Q7
  show Go p.tables e below _ (T7.setTop (mkF m 21 #[.val (.int c)] [(.ref b_8), (.ref b4), (.ref b4)]))
  refine o_iconst (pc' := 22) (v := (0 : Int32)) X7 d6_21 rfl (by decide) ?_
  have f13 := (A4.keep K7)
  have f14 := (f6.keep K7 nin0)
  have f15 := (f5.keep K7 nin0)
  refine o_special (pc' := 25) (argsL := [(.ref b_8), (.int (0 : Int32))]) (rest := [(.ref b4)]) (b := b4) (ws' := [b4]) X7 rfl (w_41 hw) (w_42 hw) (w_43 hw) (by decide) (lenOf pd_4 rfl) (back_met (W := 1) (rm_strInitB l Z a0 hw [] zc la kla lvs S_String_COMPACT_STRINGS hzc S_Long_LongCache_cache A_lcache C_lcache (b4) (b_8) (.null) ((.int (0 : Int32))) h7 n0 X7.old f13 f14 f15 (by omega)) X7 (w_43 hw) (w_2 hw) (by decide) (by decide)) d6_22 rfl rfl rfl (Nat.le_of_eq rfl) (by decide) (by decide) qq_fr (allS ⟨by omega, (Or.inr (by omega))⟩ all0) ?_
  rintro v16 T16 h16 L16 X16 ⟨-, -, Q16⟩ K16
  have z16 := K16.1
  obtain ⟨rfl, q17, q18, q19⟩ := Q16
  show Go p.tables e below _ (T16.setTop (mkF m 25 #[.val (.int c)] [(.ref b4)]))
  have f20 := (q10.keep K16 (ninS (own_ne (a := b_8) (b := b4) (by omega)) nin0))
  exact o_aret X16 d6_25 rfl rfl rfl (by decide) (by decide) ⟨b4, b_8, kb_9, rfl, q17, q19, q18, f20, (by omega), (by omega), (by omega), (by omega)⟩
theorem ef_keyInit (m : MethodId) (x0 : Addr) : entryFrame m #[(.ref x0)] 1 = mkF m 0 #[.val (.ref x0)] [] := by first | rfl | (simp [entryFrame, mkF, argsToLocals, Value.category, maxLocals]; done)
theorem pn_com_example_row_lease_rowlease_AssignedKey : plainName "com/example/row_lease/rowlease/AssignedKey" = true := by first | (simp [plainName, overriddenIn]; done) | decide +kernel
theorem d7_0 : decode prog_1_method_1_code 0 = .ok (.aload_n 0, 1) := by decide +kernel
theorem d7_1 : decode prog_1_method_1_code 1 = .ok (.invokespecial 1, 3) := by decide +kernel
theorem d7_4 : decode prog_1_method_1_code 4 = .ok (.return_, 1) := by decide +kernel
def Q_keyInit (Z : State) (a : Addr) (h0 : Heap) (v : Option Value) (h : Heap) : Prop := v = none
set_option maxRecDepth 65536 in
set_option maxHeartbeats 40000000 in
theorem rm_keyInit (l : Launch) (Z : State) (a0 : Array Value) (hw : ∀ d ∈ tables_1, d.before a0 Z = true) (wl : List Jvm.Cond) (zc : Int32) (la : Addr) (kla : ClassId) (lvs : List Value) (S_String_COMPACT_STRINGS : Sta Z Z.heap "java/lang/String" "COMPACT_STRINGS" "Z" (.int zc)) (hzc : ¬ (zc = (0 : Int32))) (S_Long_LongCache_cache : Sta Z Z.heap "java/lang/Long$LongCache" "cache" "[Ljava/lang/Long;" (.ref la)) (A_lcache : Arv Z Z.heap la kla (.object "java/lang/Long") (256 : Int32) lvs .null) (C_lcache : ∀ i, i < 256 → ∃ r, lvs.getD i .null = .ref r ∧ Exa Z Z.heap r "java/lang/Long") (a : Addr) (h0 : Heap) (n0 : Nat) (O0 : Old Z n0 h0)  :
    Met l (⟨"com/example/row_lease/rowlease/AssignedKey", "<init>", "()V"⟩ : MethodName) prog_1_method_1_code 1 none wl ({ frames := 1, cells := 0, slots := 0, locals := 12 } : Room) Z #[(.ref a)] h0 n0 [] (Q_keyInit Z a h0) := by
  refine met_intro (own := "com/example/row_lease/rowlease/AssignedKey") (nm := "<init>") pn_com_example_row_lease_rowlease_AssignedKey rfl rfl O0 ?_
  intro p e s m below meth cC T0 X0
  refine Go.cast (ef_keyInit m (a) ) ?_
  have n0le := X0.n0le
  refine o_aloadN (pc' := 1) (v := (.ref a)) X0 d7_0 rfl rfl rfl ?_
  refine o_initO (pc' := 4) (W := 0) X0 (w_50 hw) (w_12 hw) (w_13 hw) rfl (by decide) (Nat.le_of_eq rfl) (by decide) d7_1 rfl ?_
  intro T1 X2
  exact o_ret X2 d7_4 rfl (by decide) (by decide) rfl
theorem ef_assign (m : MethodId) (x0 : Addr) (x1 : Addr) : entryFrame m #[(.ref x0), (.ref x1)] 2 = mkF m 0 #[.val (.ref x0), .val (.ref x1)] [] := by first | rfl | (simp [entryFrame, mkF, argsToLocals, Value.category, maxLocals]; done)
theorem d8_0 : decode prog_1_method_3_code 0 = .ok (.aload_n 0, 1) := by decide +kernel
theorem d8_1 : decode prog_1_method_3_code 1 = .ok (.aload_n 1, 1) := by decide +kernel
theorem d8_2 : decode prog_1_method_3_code 2 = .ok (.putfield 7, 3) := by decide +kernel
theorem d8_5 : decode prog_1_method_3_code 5 = .ok (.return_, 1) := by decide +kernel
def Q_assign (Z : State) (a : Addr) (x : Addr) (u : Value) (h0 : Heap) (v : Option Value) (h : Heap) : Prop := v = none ∧ Fld Z h a "com/example/row_lease/rowlease/AssignedKey" "key" "Ljava/lang/Object;" (.ref x)
set_option maxRecDepth 65536 in
set_option maxHeartbeats 40000000 in
theorem rm_assign (l : Launch) (Z : State) (a0 : Array Value) (hw : ∀ d ∈ tables_1, d.before a0 Z = true) (wl : List Jvm.Cond) (zc : Int32) (la : Addr) (kla : ClassId) (lvs : List Value) (S_String_COMPACT_STRINGS : Sta Z Z.heap "java/lang/String" "COMPACT_STRINGS" "Z" (.int zc)) (hzc : ¬ (zc = (0 : Int32))) (S_Long_LongCache_cache : Sta Z Z.heap "java/lang/Long$LongCache" "cache" "[Ljava/lang/Long;" (.ref la)) (A_lcache : Arv Z Z.heap la kla (.object "java/lang/Long") (256 : Int32) lvs .null) (C_lcache : ∀ i, i < 256 → ∃ r, lvs.getD i .null = .ref r ∧ Exa Z Z.heap r "java/lang/Long") (a : Addr) (x : Addr) (u : Value) (h0 : Heap) (n0 : Nat) (O0 : Old Z n0 h0) (F0_a : Exa Z h0 a "com/example/row_lease/rowlease/AssignedKey") (F1_a_key : Fld Z h0 a "com/example/row_lease/rowlease/AssignedKey" "key" "Ljava/lang/Object;" u) (n0_a : n0 ≤ a) :
    Met l (⟨"com/example/row_lease/rowlease/AssignedKey", "assign", "(Ljava/lang/Object;)V"⟩ : MethodName) prog_1_method_3_code 2 none wl ({ frames := 0, cells := 0, slots := 0, locals := 0 } : Room) Z #[(.ref a), (.ref x)] h0 n0 [a] (Q_assign Z a x u h0) := by
  refine met_intro (own := "com/example/row_lease/rowlease/AssignedKey") (nm := "assign") pn_com_example_row_lease_rowlease_AssignedKey rfl rfl O0 ?_
  intro p e s m below meth cC T0 X0
  refine Go.cast (ef_assign m (a) (x) ) ?_
  have n0le := X0.n0le
  have lt_a : h0.size > a := F0_a.lt
  refine o_aloadN (pc' := 1) (v := (.ref a)) X0 d8_0 rfl rfl rfl ?_
  refine o_aloadN (pc' := 2) (v := (.ref x)) X0 d8_1 rfl rfl rfl ?_
  refine o_putF (pc' := 5) (v' := (.ref x)) (ty := (.object "java/lang/Object")) X0 (w_56 hw) Via.refl F1_a_key F0_a (Or.inl (w_57 hw)) (w_45 hw) (by decide) rfl rfl d8_2 rfl (by omega) (Or.inl (by simp)) ?_
  intro T1 h1 X1 W1
  have z1 := W1.size
  have f2 : Fld Z h1 a "com/example/row_lease/rowlease/AssignedKey" "key" "Ljava/lang/Object;" (.ref x) := F1_a_key.same W1
  exact o_ret X1 d8_5 rfl (by decide) (by decide) ⟨rfl, f2⟩
theorem ef_get (m : MethodId) (x0 : Addr) : entryFrame m #[(.ref x0)] 1 = mkF m 0 #[.val (.ref x0)] [] := by first | rfl | (simp [entryFrame, mkF, argsToLocals, Value.category, maxLocals]; done)
theorem d9_0 : decode prog_1_method_2_code 0 = .ok (.aload_n 0, 1) := by decide +kernel
theorem d9_1 : decode prog_1_method_2_code 1 = .ok (.getfield 7, 3) := by decide +kernel
theorem d9_4 : decode prog_1_method_2_code 4 = .ok (.ifnonnull 13, 3) := by decide +kernel
theorem d9_17 : decode prog_1_method_2_code 17 = .ok (.aload_n 0, 1) := by decide +kernel
theorem d9_18 : decode prog_1_method_2_code 18 = .ok (.getfield 7, 3) := by decide +kernel
theorem d9_21 : decode prog_1_method_2_code 21 = .ok (.areturn, 1) := by decide +kernel
def Q_get (Z : State) (a : Addr) (x : Addr) (h0 : Heap) (v : Option Value) (h : Heap) : Prop := v = some (.ref x)
set_option maxRecDepth 65536 in
set_option maxHeartbeats 40000000 in
theorem rm_get (l : Launch) (Z : State) (a0 : Array Value) (hw : ∀ d ∈ tables_1, d.before a0 Z = true) (wl : List Jvm.Cond) (zc : Int32) (la : Addr) (kla : ClassId) (lvs : List Value) (S_String_COMPACT_STRINGS : Sta Z Z.heap "java/lang/String" "COMPACT_STRINGS" "Z" (.int zc)) (hzc : ¬ (zc = (0 : Int32))) (S_Long_LongCache_cache : Sta Z Z.heap "java/lang/Long$LongCache" "cache" "[Ljava/lang/Long;" (.ref la)) (A_lcache : Arv Z Z.heap la kla (.object "java/lang/Long") (256 : Int32) lvs .null) (C_lcache : ∀ i, i < 256 → ∃ r, lvs.getD i .null = .ref r ∧ Exa Z Z.heap r "java/lang/Long") (a : Addr) (x : Addr) (h0 : Heap) (n0 : Nat) (O0 : Old Z n0 h0) (F0_a_key : Fld Z h0 a "com/example/row_lease/rowlease/AssignedKey" "key" "Ljava/lang/Object;" (.ref x)) :
    Met l (⟨"com/example/row_lease/rowlease/AssignedKey", "get", "()Ljava/lang/Object;"⟩ : MethodName) prog_1_method_2_code 1 (some (.object "java/lang/Object")) wl ({ frames := 0, cells := 0, slots := 0, locals := 0 } : Room) Z #[(.ref a)] h0 n0 [] (Q_get Z a x h0) := by
  refine met_intro (own := "com/example/row_lease/rowlease/AssignedKey") (nm := "get") pn_com_example_row_lease_rowlease_AssignedKey rfl rfl O0 ?_
  intro p e s m below meth cC T0 X0
  refine Go.cast (ef_get m (a) ) ?_
  have n0le := X0.n0le
  have lt_a : h0.size > a := F0_a_key.lt
  refine o_aloadN (pc' := 1) (v := (.ref a)) X0 d9_0 rfl rfl rfl ?_
  refine o_getF (pc' := 4) X0 (w_56 hw) Via.refl F0_a_key d9_1 rfl ?_
  intro T1 X2
  refine o_ifnonnullYes (pc' := 17) X2 d9_4 (by decide) (by decide) ?_
  refine o_aloadN (pc' := 18) (v := (.ref a)) X2 d9_17 rfl rfl rfl ?_
  refine o_getF (pc' := 21) X2 (w_56 hw) Via.refl F0_a_key d9_18 rfl ?_
  intro T3 X4
  exact o_aret X4 d9_21 rfl rfl rfl (by decide) (by decide) rfl
theorem ef_law (m : MethodId) (x0 : Int64) (x1 : Int64) (x2 : Int32) (x3 : Int32) (x4 : Int32) : entryFrame m #[(.long x0), (.long x1), (.int x2), (.int x3), (.int x4)] maxLocals = mkF m 0 #[.val (.long x0), .second, .val (.long x1), .second, .val (.int x2), .val (.int x3), .val (.int x4), .unset, .unset, .unset, .unset, .unset, .unset, .unset] [] := by first | rfl | (simp [entryFrame, mkF, argsToLocals, Value.category, maxLocals]; done)
theorem pn_com_example_row_lease_rowlease_AssignedKeyGetPinLaw : plainName "com/example/row_lease/rowlease/AssignedKeyGetPinLaw" = true := by first | (simp [plainName, overriddenIn]; done) | decide +kernel
theorem pd_5 : parseMethodDescriptor "([C)V" = some ⟨[(.array .char)], none⟩ := by decide +kernel
theorem pd_6 : parseMethodDescriptor "(C)Ljava/lang/String;" = some ⟨[.char], (some (.object "java/lang/String"))⟩ := by decide +kernel
theorem pd_7 : parseMethodDescriptor "(Ljava/lang/Object;)V" = some ⟨[(.object "java/lang/Object")], none⟩ := by decide +kernel
theorem pd_8 : parseMethodDescriptor "()Ljava/lang/Object;" = some ⟨[], (some (.object "java/lang/Object"))⟩ := by decide +kernel
theorem pd_9 : parseMethodDescriptor "(J)Ljava/lang/Long;" = some ⟨[.long], (some (.object "java/lang/Long"))⟩ := by decide +kernel
def Q_law (Z : State) (p1 : Int64) (p2 : Int64) (p3 : Int32) (p4 : Int32) (p5 : Int32) (h0 : Heap) (v : Option Value) (h : Heap) : Prop := v = some (.int (1 : Int32))
set_option maxRecDepth 65536 in
set_option maxHeartbeats 40000000 in
theorem rm_law (l : Launch) (Z : State) (a0 : Array Value) (hw : ∀ d ∈ tables_1, d.before a0 Z = true) (wl : List Jvm.Cond) (zc : Int32) (la : Addr) (kla : ClassId) (lvs : List Value) (S_String_COMPACT_STRINGS : Sta Z Z.heap "java/lang/String" "COMPACT_STRINGS" "Z" (.int zc)) (hzc : ¬ (zc = (0 : Int32))) (S_Long_LongCache_cache : Sta Z Z.heap "java/lang/Long$LongCache" "cache" "[Ljava/lang/Long;" (.ref la)) (A_lcache : Arv Z Z.heap la kla (.object "java/lang/Long") (256 : Int32) lvs .null) (C_lcache : ∀ i, i < 256 → ∃ r, lvs.getD i .null = .ref r ∧ Exa Z Z.heap r "java/lang/Long") (p1 : Int64) (p2 : Int64) (p3 : Int32) (p4 : Int32) (p5 : Int32) (h0 : Heap) (n0 : Nat) (O0 : Old Z n0 h0)  :
    Met l x code maxLocals ret wl room_1 Z #[(.long p1), (.long p2), (.int p3), (.int p4), (.int p5)] h0 n0 [] (Q_law Z p1 p2 p3 p4 p5 h0) := by
  refine met_intro (own := "com/example/row_lease/rowlease/AssignedKeyGetPinLaw") (nm := "law") pn_com_example_row_lease_rowlease_AssignedKeyGetPinLaw rfl rfl O0 ?_
  intro p e s m below meth cC T0 X0
  refine Go.cast (ef_law m (p1) (p2) (p3) (p4) (p5) ) ?_
  have n0le := X0.n0le
  refine o_iload (pc' := 2) (v := p5) X0 at_0 rfl rfl ?_
  refine o_iconst (pc' := 3) (v := (1 : Int32)) X0 at_2 rfl (by decide) ?_
  refine o_iand (pc' := 4) (v := (p5 &&& (1 : Int32))) X0 at_3 rfl rfl ?_
  by_cases hc1 : (p5 &&& (1 : Int32)) = (0 : Int32)
  · refine o_ifYes (pc' := 16) X0 at_4 (by decide) (by decide) ((if0 _ _).trans (teq hc1).1) ?_
    refine o_new (pc' := 19) X0 (w_0 hw) (w_1 hw) (w_2 hw) at_16 rfl (by decide) (by decide) ?_
    intro T2 h2 b2 X2 g2 l2 E2 A2 D2 U2
    have f3 : Fld Z h2 b2 "java/lang/String" "coder" "B" (.int (0 : Int32)) := D2 (Or.inr (w_27 hw)) (ty := .byte) (by decide)
    have f4 : Fld Z h2 b2 "java/lang/String" "value" "[B" .null := D2 (Or.inr (w_29 hw)) (ty := (.array .byte)) (by decide)
    refine o_dup (pc' := 20) X2 at_19 rfl rfl ?_
    refine o_iconst (pc' := 21) (v := (2 : Int32)) X2 at_20 rfl (by decide) ?_
    refine o_newP (pc' := 23) (aty := .char) (cap := 2) X2 (w_3 hw) at_21 rfl (by decide) (by decide) (by decide) (by decide) (by decide) (ad := "[C") (by decide +kernel) ?_
    intro T5 h5 b5 k5 X5 g5 l5 E5 V5 A5
    have V6 : Arv Z h5 b5 k5 .char (2 : Int32) [(.int (0 : Int32)), (.int (0 : Int32))] (.int (0 : Int32)) := V5.pad (pad_rep [] (.int (0 : Int32)) 2)
    refine o_dup (pc' := 24) X5 at_23 rfl rfl ?_
    refine o_iconst (pc' := 25) (v := (0 : Int32)) X5 at_24 rfl (by decide) ?_
    refine o_iload (pc' := 27) (v := p3) X5 at_25 rfl rfl ?_
    refine o_sipush (pc' := 30) (v := (255 : Int32)) X5 at_27 rfl (by decide) ?_
    refine o_iand (pc' := 31) (v := (p3 &&& (255 : Int32))) X5 at_30 rfl rfl ?_
    obtain ⟨c7, ce8⟩ : ∃ z : Int32, (p3 &&& (255 : Int32)).toUInt32.toUInt16.toUInt32.toInt32 = z := ⟨_, rfl⟩
    have cr9 := own_c255 _ _ ce8
    refine o_i2c (pc' := 32) (v := c7) X5 at_31 rfl ce8 ?_
    refine o_stC (pc' := 33) (i := 0) (y := c7) X5 V6 ⟨by decide, by decide⟩ (by decide) (Nat.le_of_ble_eq_true rfl) (own_narC cr9) at_32 rfl (by omega) (Or.inr (by omega)) ?_
    rintro T10 h10 X10 ⟨sl10, ww10, W10⟩ V10
    have z10 := W10.size
    have V11 : Arv Z h10 b5 k5 .char (2 : Int32) [(.int c7), (.int (0 : Int32))] (.int (0 : Int32)) := V10
    refine o_dup (pc' := 34) X10 at_33 rfl rfl ?_
    refine o_iconst (pc' := 35) (v := (1 : Int32)) X10 at_34 rfl (by decide) ?_
    refine o_iload (pc' := 37) (v := p4) X10 at_35 rfl rfl ?_
    refine o_sipush (pc' := 40) (v := (255 : Int32)) X10 at_37 rfl (by decide) ?_
    refine o_iand (pc' := 41) (v := (p4 &&& (255 : Int32))) X10 at_40 rfl rfl ?_
    obtain ⟨c12, ce13⟩ : ∃ z : Int32, (p4 &&& (255 : Int32)).toUInt32.toUInt16.toUInt32.toInt32 = z := ⟨_, rfl⟩
    have cr14 := own_c255 _ _ ce13
    refine o_i2c (pc' := 42) (v := c12) X10 at_41 rfl ce13 ?_
    refine o_stC (pc' := 43) (i := 1) (y := c12) X10 V11 ⟨by decide, by decide⟩ (by decide) (Nat.le_of_ble_eq_true rfl) (own_narC cr14) at_42 rfl (by omega) (Or.inr (by omega)) ?_
    rintro T15 h15 X15 ⟨sl15, ww15, W15⟩ V15
    have z15 := W15.size
    have V16 : Arv Z h15 b5 k5 .char (2 : Int32) [(.int c7), (.int c12)] (.int (0 : Int32)) := V15
    have hp17 : ∀ c ∈ ([c7, c12] : List Int32), ¬ c < 0 ∧ ¬ (255 : Int32) < c := (own_allC cr9 (own_allC cr14 (fun _ q => nomatch q)))
    have f18 := (((A2.ext E5).wr W10).wr W15)
    have f19 := (((f4.ext E5).other W10 (Or.inl (own_ne (a := b2) (b := b5) (by omega)))).other W15 (Or.inl (own_ne (a := b2) (b := b5) (by omega))))
    have f20 := (((f3.ext E5).other W10 (Or.inl (own_ne (a := b2) (b := b5) (by omega)))).other W15 (Or.inl (own_ne (a := b2) (b := b5) (by omega))))
    refine o_special (pc' := 46) (argsL := [(.ref b5)]) (rest := [(.ref b2)]) (b := b2) (ws' := [b2]) X15 rfl (w_4 hw) (w_5 hw) (w_6 hw) (by decide) (lenOf pd_5 rfl) (StrChars.Road.backV (W := 1) X15.zv (hws_new hw) (kI := 4) (w_1 hw) (cs := ([c7, c12] : List Int32)) (bs := ([c7, c12] : List Int32).map (fun c => c.toInt8.toInt32)) (n := 2) (n0 := n0) (by omega) (by omega) f18 f19 f20 V16 (S_String_COMPACT_STRINGS.ext X15.old.2) hzc rfl rfl (by decide) (by decide) hp17 rfl (by decide) (by decide)) at_43 rfl rfl rfl (Nat.le_of_eq rfl) (by decide) (by decide) (fun _ _ _ q => ⟨q.2.1, q.2.2.1⟩) (allS ⟨by omega, (Or.inr (by omega))⟩ all0) ?_
    intro v21 T21 h21 L21 X21 Q21 K21
    have z21 := K21.1
    obtain ⟨rfl, -, -, Es22, Cs22, ts22, kb22, nt22, gt22, tx22, Vs22, As22⟩ := Q21
    have lts22 : h21.size > ts22 := As22.lt
    show Go p.tables e below _ (T21.setTop (mkF m 46 #[.val (.long p1), .second, .val (.long p2), .second, .val (.int p3), .val (.int p4), .val (.int p5), .unset, .unset, .unset, .unset, .unset, .unset, .unset] [(.ref b2)]))
    refine o_astore (pc' := 48) (l' := #[.val (.long p1), .second, .val (.long p2), .second, .val (.int p3), .val (.int p4), .val (.int p5), .val (.ref b2), .unset, .unset, .unset, .unset, .unset, .unset]) X21 at_46 rfl rfl rfl ?_
    refine o_iload (pc' := 50) (v := p5) X21 at_48 rfl rfl ?_
    refine o_iconst (pc' := 51) (v := (2 : Int32)) X21 at_50 rfl (by decide) ?_
    refine o_iand (pc' := 52) (v := (p5 &&& (2 : Int32))) X21 at_51 rfl rfl ?_
    by_cases hc23 : (p5 &&& (2 : Int32)) = (0 : Int32)
    · refine o_ifYes (pc' := 64) X21 at_52 (by decide) (by decide) ((if0 _ _).trans (teq hc23).1) ?_
      refine o_iload (pc' := 66) (v := p4) X21 at_64 rfl rfl ?_
      refine o_sipush (pc' := 69) (v := (255 : Int32)) X21 at_66 rfl (by decide) ?_
      refine o_iand (pc' := 70) (v := (p4 &&& (255 : Int32))) X21 at_69 rfl rfl ?_
      obtain ⟨c24, ce25⟩ : ∃ z : Int32, (p4 &&& (255 : Int32)).toUInt32.toUInt16.toUInt32.toInt32 = z := ⟨_, rfl⟩
      have cr26 := own_c255 _ _ ce25
      refine o_i2c (pc' := 71) (v := c24) X21 at_70 rfl ce25 ?_
      refine o_static (pc' := 74) (argsL := [(.int c24)]) (rest := []) (ws' := []) X21 (w_30 hw) (w_31 hw) (w_2 hw) (w_32 hw) (by decide) (lenOf pd_6 rfl) (back_met (W := 0) (rm_strValueOfC l Z a0 hw [] zc la kla lvs S_String_COMPACT_STRINGS hzc S_Long_LongCache_cache A_lcache C_lcache (c24) h21 n0 X21.old cr26) X21 (w_32 hw) (w_2 hw) (by decide) (by decide)) at_71 rfl rfl rfl (Nat.le_of_eq rfl) (by decide) (by decide) qq_fr all0 ?_
      rintro v27 T27 h27 L27 X27 ⟨-, -, Q27⟩ K27
      have z27 := K27.1
      obtain ⟨r_28, t_29, kb_30, rfl, q31, q32, q33, q34, q35, q36, q37, q38⟩ := Q27
      show Go p.tables e below _ (T27.setTop (mkF m 74 #[.val (.long p1), .second, .val (.long p2), .second, .val (.int p3), .val (.int p4), .val (.int p5), .val (.ref b2), .unset, .unset, .unset, .unset, .unset, .unset] [(.ref r_28)]))
      refine o_astore (pc' := 76) (l' := #[.val (.long p1), .second, .val (.long p2), .second, .val (.int p3), .val (.int p4), .val (.int p5), .val (.ref b2), .val (.ref r_28), .unset, .unset, .unset, .unset, .unset]) X27 at_74 rfl rfl rfl ?_
      refine o_iload (pc' := 78) (v := p5) X27 at_76 rfl rfl ?_
      refine o_iconst (pc' := 79) (v := (4 : Int32)) X27 at_78 rfl (by decide) ?_
      refine o_iand (pc' := 80) (v := (p5 &&& (4 : Int32))) X27 at_79 rfl rfl ?_
      by_cases hc39 : (p5 &&& (4 : Int32)) = (0 : Int32)
      · refine o_ifYes (pc' := 87) X27 at_80 (by decide) (by decide) ((if0 _ _).trans (teq hc39).1) ?_
        refine o_iconst (pc' := 88) (v := (0 : Int32)) X27 at_87 rfl (by decide) ?_
        refine o_istore (pc' := 90) (l' := #[.val (.long p1), .second, .val (.long p2), .second, .val (.int p3), .val (.int p4), .val (.int p5), .val (.ref b2), .val (.ref r_28), .val (.int (0 : Int32)), .unset, .unset, .unset, .unset]) X27 at_88 rfl rfl ?_
        refine o_new (pc' := 93) X27 (w_44 hw) (w_45 hw) (w_46 hw) at_90 rfl (by decide) (by decide) ?_
        intro T40 h40 b40 X40 g40 l40 E40 A40 D40 U40
        have f41 : Fld Z h40 b40 "com/example/row_lease/rowlease/AssignedKey" "key" "Ljava/lang/Object;" .null := D40 (Or.inl (w_57 hw)) (ty := (.object "java/lang/Object")) (by decide)
        refine o_dup (pc' := 94) X40 at_93 rfl rfl ?_
        refine o_special (pc' := 97) (argsL := []) (rest := [(.ref b40)]) (b := b40) (ws' := []) X40 rfl (w_47 hw) (w_48 hw) (w_49 hw) (by decide) (lenOf pd_0 rfl) (back_met (W := 1) (rm_keyInit l Z a0 hw [] zc la kla lvs S_String_COMPACT_STRINGS hzc S_Long_LongCache_cache A_lcache C_lcache (b40) h40 n0 X40.old ) X40 (w_49 hw) (w_46 hw) (by decide) (by decide)) at_94 rfl rfl rfl (Nat.le_of_eq rfl) (by decide) (by decide) qq_fr all0 ?_
        rintro v42 T42 h42 L42 X42 ⟨-, -, Q42⟩ K42
        have z42 := K42.1
        obtain rfl := Q42
        show Go p.tables e below _ (T42.setTop (mkF m 97 #[.val (.long p1), .second, .val (.long p2), .second, .val (.int p3), .val (.int p4), .val (.int p5), .val (.ref b2), .val (.ref r_28), .val (.int (0 : Int32)), .unset, .unset, .unset, .unset] [(.ref b40)]))
        refine o_astore (pc' := 99) (l' := #[.val (.long p1), .second, .val (.long p2), .second, .val (.int p3), .val (.int p4), .val (.int p5), .val (.ref b2), .val (.ref r_28), .val (.int (0 : Int32)), .val (.ref b40), .unset, .unset, .unset]) X42 at_97 rfl rfl rfl ?_
        refine o_aload (pc' := 101) (v := (.ref b40)) X42 at_99 rfl rfl rfl ?_
        refine o_aload (pc' := 103) (v := (.ref b2)) X42 at_101 rfl rfl rfl ?_
        have f43 := (A40.keep K42)
        have f44 := (f41.keep K42 nin0)
        refine o_virtual (pc' := 106) (argsL := [(.ref b2)]) (rest := []) (b := b40) (ws' := [b40]) X42 f43 (w_51 hw) (w_52 hw) (w_54 hw) (w_53 hw) (nf_sel (w_54 hw)) (by decide) (lenOf pd_7 rfl) (back_met (W := 0) (rm_assign l Z a0 hw [] zc la kla lvs S_String_COMPACT_STRINGS hzc S_Long_LongCache_cache A_lcache C_lcache (b40) (b2) (.null) h42 n0 X42.old f43 f44 (by omega)) X42 (w_55 hw) (w_46 hw) (by decide) (by decide)) at_103 rfl rfl rfl (Nat.le_of_eq rfl) (by decide) (by decide) qq_fr (allS ⟨by omega, (Or.inr (by omega))⟩ all0) ?_
        rintro v45 T45 h45 L45 X45 ⟨-, -, Q45⟩ K45
        have z45 := K45.1
        obtain ⟨rfl, q46⟩ := Q45
        show Go p.tables e below _ (T45.setTop (mkF m 106 #[.val (.long p1), .second, .val (.long p2), .second, .val (.int p3), .val (.int p4), .val (.int p5), .val (.ref b2), .val (.ref r_28), .val (.int (0 : Int32)), .val (.ref b40), .unset, .unset, .unset] []))
        refine o_aload (pc' := 108) (v := (.ref b2)) X45 at_106 rfl rfl rfl ?_
        refine o_astore (pc' := 110) (l' := #[.val (.long p1), .second, .val (.long p2), .second, .val (.int p3), .val (.int p4), .val (.int p5), .val (.ref b2), .val (.ref r_28), .val (.int (0 : Int32)), .val (.ref b40), .val (.ref b2), .unset, .unset]) X45 at_108 rfl rfl rfl ?_
        refine o_iload (pc' := 112) (v := (0 : Int32)) X45 at_110 rfl rfl ?_
        refine o_ifYes (pc' := 126) X45 at_112 (by decide) (by decide) ((if0 _ _).trans (teq (by decide)).1) ?_
        refine o_aload (pc' := 128) (v := (.ref b40)) X45 at_126 rfl rfl rfl ?_
        have f48 := (f43.keep K45)
        refine o_virtual (pc' := 131) (argsL := []) (rest := []) (b := b40) (ws' := []) X45 f48 (w_58 hw) (w_59 hw) (w_61 hw) (w_60 hw) (nf_sel (w_61 hw)) (by decide) (lenOf pd_8 rfl) (back_met (W := 0) (rm_get l Z a0 hw [] zc la kla lvs S_String_COMPACT_STRINGS hzc S_Long_LongCache_cache A_lcache C_lcache (b40) (b2) h45 n0 X45.old q46) X45 (w_62 hw) (w_46 hw) (by decide) (by decide)) at_128 rfl rfl rfl (Nat.le_of_eq rfl) (by decide) (by decide) qq_fr all0 ?_
        rintro v47 T47 h47 L47 X47 ⟨-, -, Q47⟩ K47
        have z47 := K47.1
        obtain rfl := Q47
        show Go p.tables e below _ (T47.setTop (mkF m 131 #[.val (.long p1), .second, .val (.long p2), .second, .val (.int p3), .val (.int p4), .val (.int p5), .val (.ref b2), .val (.ref r_28), .val (.int (0 : Int32)), .val (.ref b40), .val (.ref b2), .unset, .unset] [(.ref b2)]))
        refine o_astore (pc' := 133) (l' := #[.val (.long p1), .second, .val (.long p2), .second, .val (.int p3), .val (.int p4), .val (.int p5), .val (.ref b2), .val (.ref r_28), .val (.int (0 : Int32)), .val (.ref b40), .val (.ref b2), .val (.ref b2), .unset]) X47 at_131 rfl rfl rfl ?_
        refine o_aload (pc' := 135) (v := (.ref b40)) X47 at_133 rfl rfl rfl ?_
        have f49 := (q46.keep K47 nin0)
        have f51 := (f48.keep K47)
        refine o_virtual (pc' := 138) (argsL := []) (rest := []) (b := b40) (ws' := []) X47 f51 (w_58 hw) (w_59 hw) (w_61 hw) (w_60 hw) (nf_sel (w_61 hw)) (by decide) (lenOf pd_8 rfl) (back_met (W := 0) (rm_get l Z a0 hw [] zc la kla lvs S_String_COMPACT_STRINGS hzc S_Long_LongCache_cache A_lcache C_lcache (b40) (b2) h47 n0 X47.old f49) X47 (w_62 hw) (w_46 hw) (by decide) (by decide)) at_135 rfl rfl rfl (Nat.le_of_eq rfl) (by decide) (by decide) qq_fr all0 ?_
        rintro v50 T50 h50 L50 X50 ⟨-, -, Q50⟩ K50
        have z50 := K50.1
        obtain rfl := Q50
        show Go p.tables e below _ (T50.setTop (mkF m 138 #[.val (.long p1), .second, .val (.long p2), .second, .val (.int p3), .val (.int p4), .val (.int p5), .val (.ref b2), .val (.ref r_28), .val (.int (0 : Int32)), .val (.ref b40), .val (.ref b2), .val (.ref b2), .unset] [(.ref b2)]))
        refine o_astore (pc' := 140) (l' := #[.val (.long p1), .second, .val (.long p2), .second, .val (.int p3), .val (.int p4), .val (.int p5), .val (.ref b2), .val (.ref r_28), .val (.int (0 : Int32)), .val (.ref b40), .val (.ref b2), .val (.ref b2), .val (.ref b2)]) X50 at_138 rfl rfl rfl ?_
        refine o_aload (pc' := 142) (v := (.ref b2)) X50 at_140 rfl rfl rfl ?_
        refine o_aload (pc' := 144) (v := (.ref b2)) X50 at_142 rfl rfl rfl ?_
        refine o_acmp (pc' := 147) (same := true) X50 at_144 rfl rfl (decide_eq_true rfl) (by decide) (by decide) ?_
        refine o_aload (pc' := 149) (v := (.ref b2)) X50 at_147 rfl rfl rfl ?_
        refine o_aload (pc' := 151) (v := (.ref b2)) X50 at_149 rfl rfl rfl ?_
        refine o_acmp (pc' := 154) (same := true) X50 at_151 rfl rfl (decide_eq_true rfl) (by decide) (by decide) ?_
        refine o_iconst (pc' := 155) (v := (1 : Int32)) X50 at_154 rfl (by decide) ?_
        refine o_goto (pc' := 159) X50 at_155 (by decide) (by decide) ?_
        exact o_nret (y := (1 : Int32)) (t := .boolean) X50 at_159 rfl (by decide) (by simp) (by decide) (by decide) rfl
      · refine o_ifNo (pc' := 83) X27 at_80 rfl ((if0 _ _).trans (feq hc39).1) ?_
        refine o_iconst (pc' := 84) (v := (1 : Int32)) X27 at_83 rfl (by decide) ?_
        refine o_goto (pc' := 88) X27 at_84 (by decide) (by decide) ?_
        refine o_istore (pc' := 90) (l' := #[.val (.long p1), .second, .val (.long p2), .second, .val (.int p3), .val (.int p4), .val (.int p5), .val (.ref b2), .val (.ref r_28), .val (.int (1 : Int32)), .unset, .unset, .unset, .unset]) X27 at_88 rfl rfl ?_
        refine o_new (pc' := 93) X27 (w_44 hw) (w_45 hw) (w_46 hw) at_90 rfl (by decide) (by decide) ?_
        intro T52 h52 b52 X52 g52 l52 E52 A52 D52 U52
        have f53 : Fld Z h52 b52 "com/example/row_lease/rowlease/AssignedKey" "key" "Ljava/lang/Object;" .null := D52 (Or.inl (w_57 hw)) (ty := (.object "java/lang/Object")) (by decide)
        refine o_dup (pc' := 94) X52 at_93 rfl rfl ?_
        refine o_special (pc' := 97) (argsL := []) (rest := [(.ref b52)]) (b := b52) (ws' := []) X52 rfl (w_47 hw) (w_48 hw) (w_49 hw) (by decide) (lenOf pd_0 rfl) (back_met (W := 1) (rm_keyInit l Z a0 hw [] zc la kla lvs S_String_COMPACT_STRINGS hzc S_Long_LongCache_cache A_lcache C_lcache (b52) h52 n0 X52.old ) X52 (w_49 hw) (w_46 hw) (by decide) (by decide)) at_94 rfl rfl rfl (Nat.le_of_eq rfl) (by decide) (by decide) qq_fr all0 ?_
        rintro v54 T54 h54 L54 X54 ⟨-, -, Q54⟩ K54
        have z54 := K54.1
        obtain rfl := Q54
        show Go p.tables e below _ (T54.setTop (mkF m 97 #[.val (.long p1), .second, .val (.long p2), .second, .val (.int p3), .val (.int p4), .val (.int p5), .val (.ref b2), .val (.ref r_28), .val (.int (1 : Int32)), .unset, .unset, .unset, .unset] [(.ref b52)]))
        refine o_astore (pc' := 99) (l' := #[.val (.long p1), .second, .val (.long p2), .second, .val (.int p3), .val (.int p4), .val (.int p5), .val (.ref b2), .val (.ref r_28), .val (.int (1 : Int32)), .val (.ref b52), .unset, .unset, .unset]) X54 at_97 rfl rfl rfl ?_
        refine o_aload (pc' := 101) (v := (.ref b52)) X54 at_99 rfl rfl rfl ?_
        refine o_aload (pc' := 103) (v := (.ref b2)) X54 at_101 rfl rfl rfl ?_
        have f55 := (A52.keep K54)
        have f56 := (f53.keep K54 nin0)
        refine o_virtual (pc' := 106) (argsL := [(.ref b2)]) (rest := []) (b := b52) (ws' := [b52]) X54 f55 (w_51 hw) (w_52 hw) (w_54 hw) (w_53 hw) (nf_sel (w_54 hw)) (by decide) (lenOf pd_7 rfl) (back_met (W := 0) (rm_assign l Z a0 hw [] zc la kla lvs S_String_COMPACT_STRINGS hzc S_Long_LongCache_cache A_lcache C_lcache (b52) (b2) (.null) h54 n0 X54.old f55 f56 (by omega)) X54 (w_55 hw) (w_46 hw) (by decide) (by decide)) at_103 rfl rfl rfl (Nat.le_of_eq rfl) (by decide) (by decide) qq_fr (allS ⟨by omega, (Or.inr (by omega))⟩ all0) ?_
        rintro v57 T57 h57 L57 X57 ⟨-, -, Q57⟩ K57
        have z57 := K57.1
        obtain ⟨rfl, q58⟩ := Q57
        show Go p.tables e below _ (T57.setTop (mkF m 106 #[.val (.long p1), .second, .val (.long p2), .second, .val (.int p3), .val (.int p4), .val (.int p5), .val (.ref b2), .val (.ref r_28), .val (.int (1 : Int32)), .val (.ref b52), .unset, .unset, .unset] []))
        refine o_aload (pc' := 108) (v := (.ref b2)) X57 at_106 rfl rfl rfl ?_
        refine o_astore (pc' := 110) (l' := #[.val (.long p1), .second, .val (.long p2), .second, .val (.int p3), .val (.int p4), .val (.int p5), .val (.ref b2), .val (.ref r_28), .val (.int (1 : Int32)), .val (.ref b52), .val (.ref b2), .unset, .unset]) X57 at_108 rfl rfl rfl ?_
        refine o_iload (pc' := 112) (v := (1 : Int32)) X57 at_110 rfl rfl ?_
        refine o_ifNo (pc' := 115) X57 at_112 rfl ((if0 _ _).trans (feq (by decide)).1) ?_
        refine o_aload (pc' := 117) (v := (.ref b52)) X57 at_115 rfl rfl rfl ?_
        refine o_aload (pc' := 119) (v := (.ref r_28)) X57 at_117 rfl rfl rfl ?_
        have f59 := (f55.keep K57)
        refine o_virtual (pc' := 122) (argsL := [(.ref r_28)]) (rest := []) (b := b52) (ws' := [b52]) X57 f59 (w_51 hw) (w_52 hw) (w_54 hw) (w_53 hw) (nf_sel (w_54 hw)) (by decide) (lenOf pd_7 rfl) (back_met (W := 0) (rm_assign l Z a0 hw [] zc la kla lvs S_String_COMPACT_STRINGS hzc S_Long_LongCache_cache A_lcache C_lcache (b52) (r_28) ((.ref b2)) h57 n0 X57.old f59 q58 (by omega)) X57 (w_55 hw) (w_46 hw) (by decide) (by decide)) at_119 rfl rfl rfl (Nat.le_of_eq rfl) (by decide) (by decide) qq_fr (allS ⟨by omega, (Or.inr (by omega))⟩ all0) ?_
        rintro v60 T60 h60 L60 X60 ⟨-, -, Q60⟩ K60
        have z60 := K60.1
        obtain ⟨rfl, q61⟩ := Q60
        show Go p.tables e below _ (T60.setTop (mkF m 122 #[.val (.long p1), .second, .val (.long p2), .second, .val (.int p3), .val (.int p4), .val (.int p5), .val (.ref b2), .val (.ref r_28), .val (.int (1 : Int32)), .val (.ref b52), .val (.ref b2), .unset, .unset] []))
        refine o_aload (pc' := 124) (v := (.ref r_28)) X60 at_122 rfl rfl rfl ?_
        refine o_astore (pc' := 126) (l' := #[.val (.long p1), .second, .val (.long p2), .second, .val (.int p3), .val (.int p4), .val (.int p5), .val (.ref b2), .val (.ref r_28), .val (.int (1 : Int32)), .val (.ref b52), .val (.ref r_28), .unset, .unset]) X60 at_124 rfl rfl rfl ?_
        refine o_aload (pc' := 128) (v := (.ref b52)) X60 at_126 rfl rfl rfl ?_
        have f63 := (f59.keep K60)
        refine o_virtual (pc' := 131) (argsL := []) (rest := []) (b := b52) (ws' := []) X60 f63 (w_58 hw) (w_59 hw) (w_61 hw) (w_60 hw) (nf_sel (w_61 hw)) (by decide) (lenOf pd_8 rfl) (back_met (W := 0) (rm_get l Z a0 hw [] zc la kla lvs S_String_COMPACT_STRINGS hzc S_Long_LongCache_cache A_lcache C_lcache (b52) (r_28) h60 n0 X60.old q61) X60 (w_62 hw) (w_46 hw) (by decide) (by decide)) at_128 rfl rfl rfl (Nat.le_of_eq rfl) (by decide) (by decide) qq_fr all0 ?_
        rintro v62 T62 h62 L62 X62 ⟨-, -, Q62⟩ K62
        have z62 := K62.1
        obtain rfl := Q62
        show Go p.tables e below _ (T62.setTop (mkF m 131 #[.val (.long p1), .second, .val (.long p2), .second, .val (.int p3), .val (.int p4), .val (.int p5), .val (.ref b2), .val (.ref r_28), .val (.int (1 : Int32)), .val (.ref b52), .val (.ref r_28), .unset, .unset] [(.ref r_28)]))
        refine o_astore (pc' := 133) (l' := #[.val (.long p1), .second, .val (.long p2), .second, .val (.int p3), .val (.int p4), .val (.int p5), .val (.ref b2), .val (.ref r_28), .val (.int (1 : Int32)), .val (.ref b52), .val (.ref r_28), .val (.ref r_28), .unset]) X62 at_131 rfl rfl rfl ?_
        refine o_aload (pc' := 135) (v := (.ref b52)) X62 at_133 rfl rfl rfl ?_
        have f64 := (q61.keep K62 nin0)
        have f66 := (f63.keep K62)
        refine o_virtual (pc' := 138) (argsL := []) (rest := []) (b := b52) (ws' := []) X62 f66 (w_58 hw) (w_59 hw) (w_61 hw) (w_60 hw) (nf_sel (w_61 hw)) (by decide) (lenOf pd_8 rfl) (back_met (W := 0) (rm_get l Z a0 hw [] zc la kla lvs S_String_COMPACT_STRINGS hzc S_Long_LongCache_cache A_lcache C_lcache (b52) (r_28) h62 n0 X62.old f64) X62 (w_62 hw) (w_46 hw) (by decide) (by decide)) at_135 rfl rfl rfl (Nat.le_of_eq rfl) (by decide) (by decide) qq_fr all0 ?_
        rintro v65 T65 h65 L65 X65 ⟨-, -, Q65⟩ K65
        have z65 := K65.1
        obtain rfl := Q65
        show Go p.tables e below _ (T65.setTop (mkF m 138 #[.val (.long p1), .second, .val (.long p2), .second, .val (.int p3), .val (.int p4), .val (.int p5), .val (.ref b2), .val (.ref r_28), .val (.int (1 : Int32)), .val (.ref b52), .val (.ref r_28), .val (.ref r_28), .unset] [(.ref r_28)]))
        refine o_astore (pc' := 140) (l' := #[.val (.long p1), .second, .val (.long p2), .second, .val (.int p3), .val (.int p4), .val (.int p5), .val (.ref b2), .val (.ref r_28), .val (.int (1 : Int32)), .val (.ref b52), .val (.ref r_28), .val (.ref r_28), .val (.ref r_28)]) X65 at_138 rfl rfl rfl ?_
        refine o_aload (pc' := 142) (v := (.ref r_28)) X65 at_140 rfl rfl rfl ?_
        refine o_aload (pc' := 144) (v := (.ref r_28)) X65 at_142 rfl rfl rfl ?_
        refine o_acmp (pc' := 147) (same := true) X65 at_144 rfl rfl (decide_eq_true rfl) (by decide) (by decide) ?_
        refine o_aload (pc' := 149) (v := (.ref r_28)) X65 at_147 rfl rfl rfl ?_
        refine o_aload (pc' := 151) (v := (.ref r_28)) X65 at_149 rfl rfl rfl ?_
        refine o_acmp (pc' := 154) (same := true) X65 at_151 rfl rfl (decide_eq_true rfl) (by decide) (by decide) ?_
        refine o_iconst (pc' := 155) (v := (1 : Int32)) X65 at_154 rfl (by decide) ?_
        refine o_goto (pc' := 159) X65 at_155 (by decide) (by decide) ?_
        exact o_nret (y := (1 : Int32)) (t := .boolean) X65 at_159 rfl (by decide) (by simp) (by decide) (by decide) rfl
    · refine o_ifNo (pc' := 55) X21 at_52 rfl ((if0 _ _).trans (feq hc23).1) ?_
      refine o_lloadN (pc' := 56) (v := p2) X21 at_55 rfl rfl ?_
      refine o_static (pc' := 59) (argsL := [(.long p2)]) (rest := []) (ws' := []) X21 (w_63 hw) (w_64 hw) (w_65 hw) (w_66 hw) (by decide) (lenOf pd_9 rfl) (back_met (W := 0) (rm_longValueOf l Z a0 hw [] zc la kla lvs S_String_COMPACT_STRINGS hzc S_Long_LongCache_cache A_lcache C_lcache (p2) h21 n0 X21.old ) X21 (w_66 hw) (w_65 hw) (by decide) (by decide)) at_56 rfl rfl rfl (Nat.le_of_eq rfl) (by decide) (by decide) qq_fr all0 ?_
      rintro v67 T67 h67 L67 X67 ⟨-, -, Q67⟩ K67
      have z67 := K67.1
      obtain ⟨r_68, rfl, q69⟩ := Q67
      show Go p.tables e below _ (T67.setTop (mkF m 59 #[.val (.long p1), .second, .val (.long p2), .second, .val (.int p3), .val (.int p4), .val (.int p5), .val (.ref b2), .unset, .unset, .unset, .unset, .unset, .unset] [(.ref r_68)]))
      refine o_astore (pc' := 61) (l' := #[.val (.long p1), .second, .val (.long p2), .second, .val (.int p3), .val (.int p4), .val (.int p5), .val (.ref b2), .val (.ref r_68), .unset, .unset, .unset, .unset, .unset]) X67 at_59 rfl rfl rfl ?_
      refine o_goto (pc' := 76) X67 at_61 (by decide) (by decide) ?_
      refine o_iload (pc' := 78) (v := p5) X67 at_76 rfl rfl ?_
      refine o_iconst (pc' := 79) (v := (4 : Int32)) X67 at_78 rfl (by decide) ?_
      refine o_iand (pc' := 80) (v := (p5 &&& (4 : Int32))) X67 at_79 rfl rfl ?_
      by_cases hc70 : (p5 &&& (4 : Int32)) = (0 : Int32)
      · refine o_ifYes (pc' := 87) X67 at_80 (by decide) (by decide) ((if0 _ _).trans (teq hc70).1) ?_
        refine o_iconst (pc' := 88) (v := (0 : Int32)) X67 at_87 rfl (by decide) ?_
        refine o_istore (pc' := 90) (l' := #[.val (.long p1), .second, .val (.long p2), .second, .val (.int p3), .val (.int p4), .val (.int p5), .val (.ref b2), .val (.ref r_68), .val (.int (0 : Int32)), .unset, .unset, .unset, .unset]) X67 at_88 rfl rfl ?_
        refine o_new (pc' := 93) X67 (w_44 hw) (w_45 hw) (w_46 hw) at_90 rfl (by decide) (by decide) ?_
        intro T71 h71 b71 X71 g71 l71 E71 A71 D71 U71
        have f72 : Fld Z h71 b71 "com/example/row_lease/rowlease/AssignedKey" "key" "Ljava/lang/Object;" .null := D71 (Or.inl (w_57 hw)) (ty := (.object "java/lang/Object")) (by decide)
        refine o_dup (pc' := 94) X71 at_93 rfl rfl ?_
        refine o_special (pc' := 97) (argsL := []) (rest := [(.ref b71)]) (b := b71) (ws' := []) X71 rfl (w_47 hw) (w_48 hw) (w_49 hw) (by decide) (lenOf pd_0 rfl) (back_met (W := 1) (rm_keyInit l Z a0 hw [] zc la kla lvs S_String_COMPACT_STRINGS hzc S_Long_LongCache_cache A_lcache C_lcache (b71) h71 n0 X71.old ) X71 (w_49 hw) (w_46 hw) (by decide) (by decide)) at_94 rfl rfl rfl (Nat.le_of_eq rfl) (by decide) (by decide) qq_fr all0 ?_
        rintro v73 T73 h73 L73 X73 ⟨-, -, Q73⟩ K73
        have z73 := K73.1
        obtain rfl := Q73
        show Go p.tables e below _ (T73.setTop (mkF m 97 #[.val (.long p1), .second, .val (.long p2), .second, .val (.int p3), .val (.int p4), .val (.int p5), .val (.ref b2), .val (.ref r_68), .val (.int (0 : Int32)), .unset, .unset, .unset, .unset] [(.ref b71)]))
        refine o_astore (pc' := 99) (l' := #[.val (.long p1), .second, .val (.long p2), .second, .val (.int p3), .val (.int p4), .val (.int p5), .val (.ref b2), .val (.ref r_68), .val (.int (0 : Int32)), .val (.ref b71), .unset, .unset, .unset]) X73 at_97 rfl rfl rfl ?_
        refine o_aload (pc' := 101) (v := (.ref b71)) X73 at_99 rfl rfl rfl ?_
        refine o_aload (pc' := 103) (v := (.ref b2)) X73 at_101 rfl rfl rfl ?_
        have f74 := (A71.keep K73)
        have f75 := (f72.keep K73 nin0)
        refine o_virtual (pc' := 106) (argsL := [(.ref b2)]) (rest := []) (b := b71) (ws' := [b71]) X73 f74 (w_51 hw) (w_52 hw) (w_54 hw) (w_53 hw) (nf_sel (w_54 hw)) (by decide) (lenOf pd_7 rfl) (back_met (W := 0) (rm_assign l Z a0 hw [] zc la kla lvs S_String_COMPACT_STRINGS hzc S_Long_LongCache_cache A_lcache C_lcache (b71) (b2) (.null) h73 n0 X73.old f74 f75 (by omega)) X73 (w_55 hw) (w_46 hw) (by decide) (by decide)) at_103 rfl rfl rfl (Nat.le_of_eq rfl) (by decide) (by decide) qq_fr (allS ⟨by omega, (Or.inr (by omega))⟩ all0) ?_
        rintro v76 T76 h76 L76 X76 ⟨-, -, Q76⟩ K76
        have z76 := K76.1
        obtain ⟨rfl, q77⟩ := Q76
        show Go p.tables e below _ (T76.setTop (mkF m 106 #[.val (.long p1), .second, .val (.long p2), .second, .val (.int p3), .val (.int p4), .val (.int p5), .val (.ref b2), .val (.ref r_68), .val (.int (0 : Int32)), .val (.ref b71), .unset, .unset, .unset] []))
        refine o_aload (pc' := 108) (v := (.ref b2)) X76 at_106 rfl rfl rfl ?_
        refine o_astore (pc' := 110) (l' := #[.val (.long p1), .second, .val (.long p2), .second, .val (.int p3), .val (.int p4), .val (.int p5), .val (.ref b2), .val (.ref r_68), .val (.int (0 : Int32)), .val (.ref b71), .val (.ref b2), .unset, .unset]) X76 at_108 rfl rfl rfl ?_
        refine o_iload (pc' := 112) (v := (0 : Int32)) X76 at_110 rfl rfl ?_
        refine o_ifYes (pc' := 126) X76 at_112 (by decide) (by decide) ((if0 _ _).trans (teq (by decide)).1) ?_
        refine o_aload (pc' := 128) (v := (.ref b71)) X76 at_126 rfl rfl rfl ?_
        have f79 := (f74.keep K76)
        refine o_virtual (pc' := 131) (argsL := []) (rest := []) (b := b71) (ws' := []) X76 f79 (w_58 hw) (w_59 hw) (w_61 hw) (w_60 hw) (nf_sel (w_61 hw)) (by decide) (lenOf pd_8 rfl) (back_met (W := 0) (rm_get l Z a0 hw [] zc la kla lvs S_String_COMPACT_STRINGS hzc S_Long_LongCache_cache A_lcache C_lcache (b71) (b2) h76 n0 X76.old q77) X76 (w_62 hw) (w_46 hw) (by decide) (by decide)) at_128 rfl rfl rfl (Nat.le_of_eq rfl) (by decide) (by decide) qq_fr all0 ?_
        rintro v78 T78 h78 L78 X78 ⟨-, -, Q78⟩ K78
        have z78 := K78.1
        obtain rfl := Q78
        show Go p.tables e below _ (T78.setTop (mkF m 131 #[.val (.long p1), .second, .val (.long p2), .second, .val (.int p3), .val (.int p4), .val (.int p5), .val (.ref b2), .val (.ref r_68), .val (.int (0 : Int32)), .val (.ref b71), .val (.ref b2), .unset, .unset] [(.ref b2)]))
        refine o_astore (pc' := 133) (l' := #[.val (.long p1), .second, .val (.long p2), .second, .val (.int p3), .val (.int p4), .val (.int p5), .val (.ref b2), .val (.ref r_68), .val (.int (0 : Int32)), .val (.ref b71), .val (.ref b2), .val (.ref b2), .unset]) X78 at_131 rfl rfl rfl ?_
        refine o_aload (pc' := 135) (v := (.ref b71)) X78 at_133 rfl rfl rfl ?_
        have f80 := (q77.keep K78 nin0)
        have f82 := (f79.keep K78)
        refine o_virtual (pc' := 138) (argsL := []) (rest := []) (b := b71) (ws' := []) X78 f82 (w_58 hw) (w_59 hw) (w_61 hw) (w_60 hw) (nf_sel (w_61 hw)) (by decide) (lenOf pd_8 rfl) (back_met (W := 0) (rm_get l Z a0 hw [] zc la kla lvs S_String_COMPACT_STRINGS hzc S_Long_LongCache_cache A_lcache C_lcache (b71) (b2) h78 n0 X78.old f80) X78 (w_62 hw) (w_46 hw) (by decide) (by decide)) at_135 rfl rfl rfl (Nat.le_of_eq rfl) (by decide) (by decide) qq_fr all0 ?_
        rintro v81 T81 h81 L81 X81 ⟨-, -, Q81⟩ K81
        have z81 := K81.1
        obtain rfl := Q81
        show Go p.tables e below _ (T81.setTop (mkF m 138 #[.val (.long p1), .second, .val (.long p2), .second, .val (.int p3), .val (.int p4), .val (.int p5), .val (.ref b2), .val (.ref r_68), .val (.int (0 : Int32)), .val (.ref b71), .val (.ref b2), .val (.ref b2), .unset] [(.ref b2)]))
        refine o_astore (pc' := 140) (l' := #[.val (.long p1), .second, .val (.long p2), .second, .val (.int p3), .val (.int p4), .val (.int p5), .val (.ref b2), .val (.ref r_68), .val (.int (0 : Int32)), .val (.ref b71), .val (.ref b2), .val (.ref b2), .val (.ref b2)]) X81 at_138 rfl rfl rfl ?_
        refine o_aload (pc' := 142) (v := (.ref b2)) X81 at_140 rfl rfl rfl ?_
        refine o_aload (pc' := 144) (v := (.ref b2)) X81 at_142 rfl rfl rfl ?_
        refine o_acmp (pc' := 147) (same := true) X81 at_144 rfl rfl (decide_eq_true rfl) (by decide) (by decide) ?_
        refine o_aload (pc' := 149) (v := (.ref b2)) X81 at_147 rfl rfl rfl ?_
        refine o_aload (pc' := 151) (v := (.ref b2)) X81 at_149 rfl rfl rfl ?_
        refine o_acmp (pc' := 154) (same := true) X81 at_151 rfl rfl (decide_eq_true rfl) (by decide) (by decide) ?_
        refine o_iconst (pc' := 155) (v := (1 : Int32)) X81 at_154 rfl (by decide) ?_
        refine o_goto (pc' := 159) X81 at_155 (by decide) (by decide) ?_
        exact o_nret (y := (1 : Int32)) (t := .boolean) X81 at_159 rfl (by decide) (by simp) (by decide) (by decide) rfl
      · refine o_ifNo (pc' := 83) X67 at_80 rfl ((if0 _ _).trans (feq hc70).1) ?_
        refine o_iconst (pc' := 84) (v := (1 : Int32)) X67 at_83 rfl (by decide) ?_
        refine o_goto (pc' := 88) X67 at_84 (by decide) (by decide) ?_
        refine o_istore (pc' := 90) (l' := #[.val (.long p1), .second, .val (.long p2), .second, .val (.int p3), .val (.int p4), .val (.int p5), .val (.ref b2), .val (.ref r_68), .val (.int (1 : Int32)), .unset, .unset, .unset, .unset]) X67 at_88 rfl rfl ?_
        refine o_new (pc' := 93) X67 (w_44 hw) (w_45 hw) (w_46 hw) at_90 rfl (by decide) (by decide) ?_
        intro T83 h83 b83 X83 g83 l83 E83 A83 D83 U83
        have f84 : Fld Z h83 b83 "com/example/row_lease/rowlease/AssignedKey" "key" "Ljava/lang/Object;" .null := D83 (Or.inl (w_57 hw)) (ty := (.object "java/lang/Object")) (by decide)
        refine o_dup (pc' := 94) X83 at_93 rfl rfl ?_
        refine o_special (pc' := 97) (argsL := []) (rest := [(.ref b83)]) (b := b83) (ws' := []) X83 rfl (w_47 hw) (w_48 hw) (w_49 hw) (by decide) (lenOf pd_0 rfl) (back_met (W := 1) (rm_keyInit l Z a0 hw [] zc la kla lvs S_String_COMPACT_STRINGS hzc S_Long_LongCache_cache A_lcache C_lcache (b83) h83 n0 X83.old ) X83 (w_49 hw) (w_46 hw) (by decide) (by decide)) at_94 rfl rfl rfl (Nat.le_of_eq rfl) (by decide) (by decide) qq_fr all0 ?_
        rintro v85 T85 h85 L85 X85 ⟨-, -, Q85⟩ K85
        have z85 := K85.1
        obtain rfl := Q85
        show Go p.tables e below _ (T85.setTop (mkF m 97 #[.val (.long p1), .second, .val (.long p2), .second, .val (.int p3), .val (.int p4), .val (.int p5), .val (.ref b2), .val (.ref r_68), .val (.int (1 : Int32)), .unset, .unset, .unset, .unset] [(.ref b83)]))
        refine o_astore (pc' := 99) (l' := #[.val (.long p1), .second, .val (.long p2), .second, .val (.int p3), .val (.int p4), .val (.int p5), .val (.ref b2), .val (.ref r_68), .val (.int (1 : Int32)), .val (.ref b83), .unset, .unset, .unset]) X85 at_97 rfl rfl rfl ?_
        refine o_aload (pc' := 101) (v := (.ref b83)) X85 at_99 rfl rfl rfl ?_
        refine o_aload (pc' := 103) (v := (.ref b2)) X85 at_101 rfl rfl rfl ?_
        have f86 := (A83.keep K85)
        have f87 := (f84.keep K85 nin0)
        refine o_virtual (pc' := 106) (argsL := [(.ref b2)]) (rest := []) (b := b83) (ws' := [b83]) X85 f86 (w_51 hw) (w_52 hw) (w_54 hw) (w_53 hw) (nf_sel (w_54 hw)) (by decide) (lenOf pd_7 rfl) (back_met (W := 0) (rm_assign l Z a0 hw [] zc la kla lvs S_String_COMPACT_STRINGS hzc S_Long_LongCache_cache A_lcache C_lcache (b83) (b2) (.null) h85 n0 X85.old f86 f87 (by omega)) X85 (w_55 hw) (w_46 hw) (by decide) (by decide)) at_103 rfl rfl rfl (Nat.le_of_eq rfl) (by decide) (by decide) qq_fr (allS ⟨by omega, (Or.inr (by omega))⟩ all0) ?_
        rintro v88 T88 h88 L88 X88 ⟨-, -, Q88⟩ K88
        have z88 := K88.1
        obtain ⟨rfl, q89⟩ := Q88
        show Go p.tables e below _ (T88.setTop (mkF m 106 #[.val (.long p1), .second, .val (.long p2), .second, .val (.int p3), .val (.int p4), .val (.int p5), .val (.ref b2), .val (.ref r_68), .val (.int (1 : Int32)), .val (.ref b83), .unset, .unset, .unset] []))
        refine o_aload (pc' := 108) (v := (.ref b2)) X88 at_106 rfl rfl rfl ?_
        refine o_astore (pc' := 110) (l' := #[.val (.long p1), .second, .val (.long p2), .second, .val (.int p3), .val (.int p4), .val (.int p5), .val (.ref b2), .val (.ref r_68), .val (.int (1 : Int32)), .val (.ref b83), .val (.ref b2), .unset, .unset]) X88 at_108 rfl rfl rfl ?_
        refine o_iload (pc' := 112) (v := (1 : Int32)) X88 at_110 rfl rfl ?_
        refine o_ifNo (pc' := 115) X88 at_112 rfl ((if0 _ _).trans (feq (by decide)).1) ?_
        refine o_aload (pc' := 117) (v := (.ref b83)) X88 at_115 rfl rfl rfl ?_
        refine o_aload (pc' := 119) (v := (.ref r_68)) X88 at_117 rfl rfl rfl ?_
        have f90 := (f86.keep K88)
        refine o_virtual (pc' := 122) (argsL := [(.ref r_68)]) (rest := []) (b := b83) (ws' := [b83]) X88 f90 (w_51 hw) (w_52 hw) (w_54 hw) (w_53 hw) (nf_sel (w_54 hw)) (by decide) (lenOf pd_7 rfl) (back_met (W := 0) (rm_assign l Z a0 hw [] zc la kla lvs S_String_COMPACT_STRINGS hzc S_Long_LongCache_cache A_lcache C_lcache (b83) (r_68) ((.ref b2)) h88 n0 X88.old f90 q89 (by omega)) X88 (w_55 hw) (w_46 hw) (by decide) (by decide)) at_119 rfl rfl rfl (Nat.le_of_eq rfl) (by decide) (by decide) qq_fr (allS ⟨by omega, (Or.inr (by omega))⟩ all0) ?_
        rintro v91 T91 h91 L91 X91 ⟨-, -, Q91⟩ K91
        have z91 := K91.1
        obtain ⟨rfl, q92⟩ := Q91
        show Go p.tables e below _ (T91.setTop (mkF m 122 #[.val (.long p1), .second, .val (.long p2), .second, .val (.int p3), .val (.int p4), .val (.int p5), .val (.ref b2), .val (.ref r_68), .val (.int (1 : Int32)), .val (.ref b83), .val (.ref b2), .unset, .unset] []))
        refine o_aload (pc' := 124) (v := (.ref r_68)) X91 at_122 rfl rfl rfl ?_
        refine o_astore (pc' := 126) (l' := #[.val (.long p1), .second, .val (.long p2), .second, .val (.int p3), .val (.int p4), .val (.int p5), .val (.ref b2), .val (.ref r_68), .val (.int (1 : Int32)), .val (.ref b83), .val (.ref r_68), .unset, .unset]) X91 at_124 rfl rfl rfl ?_
        refine o_aload (pc' := 128) (v := (.ref b83)) X91 at_126 rfl rfl rfl ?_
        have f94 := (f90.keep K91)
        refine o_virtual (pc' := 131) (argsL := []) (rest := []) (b := b83) (ws' := []) X91 f94 (w_58 hw) (w_59 hw) (w_61 hw) (w_60 hw) (nf_sel (w_61 hw)) (by decide) (lenOf pd_8 rfl) (back_met (W := 0) (rm_get l Z a0 hw [] zc la kla lvs S_String_COMPACT_STRINGS hzc S_Long_LongCache_cache A_lcache C_lcache (b83) (r_68) h91 n0 X91.old q92) X91 (w_62 hw) (w_46 hw) (by decide) (by decide)) at_128 rfl rfl rfl (Nat.le_of_eq rfl) (by decide) (by decide) qq_fr all0 ?_
        rintro v93 T93 h93 L93 X93 ⟨-, -, Q93⟩ K93
        have z93 := K93.1
        obtain rfl := Q93
        show Go p.tables e below _ (T93.setTop (mkF m 131 #[.val (.long p1), .second, .val (.long p2), .second, .val (.int p3), .val (.int p4), .val (.int p5), .val (.ref b2), .val (.ref r_68), .val (.int (1 : Int32)), .val (.ref b83), .val (.ref r_68), .unset, .unset] [(.ref r_68)]))
        refine o_astore (pc' := 133) (l' := #[.val (.long p1), .second, .val (.long p2), .second, .val (.int p3), .val (.int p4), .val (.int p5), .val (.ref b2), .val (.ref r_68), .val (.int (1 : Int32)), .val (.ref b83), .val (.ref r_68), .val (.ref r_68), .unset]) X93 at_131 rfl rfl rfl ?_
        refine o_aload (pc' := 135) (v := (.ref b83)) X93 at_133 rfl rfl rfl ?_
        have f95 := (q92.keep K93 nin0)
        have f97 := (f94.keep K93)
        refine o_virtual (pc' := 138) (argsL := []) (rest := []) (b := b83) (ws' := []) X93 f97 (w_58 hw) (w_59 hw) (w_61 hw) (w_60 hw) (nf_sel (w_61 hw)) (by decide) (lenOf pd_8 rfl) (back_met (W := 0) (rm_get l Z a0 hw [] zc la kla lvs S_String_COMPACT_STRINGS hzc S_Long_LongCache_cache A_lcache C_lcache (b83) (r_68) h93 n0 X93.old f95) X93 (w_62 hw) (w_46 hw) (by decide) (by decide)) at_135 rfl rfl rfl (Nat.le_of_eq rfl) (by decide) (by decide) qq_fr all0 ?_
        rintro v96 T96 h96 L96 X96 ⟨-, -, Q96⟩ K96
        have z96 := K96.1
        obtain rfl := Q96
        show Go p.tables e below _ (T96.setTop (mkF m 138 #[.val (.long p1), .second, .val (.long p2), .second, .val (.int p3), .val (.int p4), .val (.int p5), .val (.ref b2), .val (.ref r_68), .val (.int (1 : Int32)), .val (.ref b83), .val (.ref r_68), .val (.ref r_68), .unset] [(.ref r_68)]))
        refine o_astore (pc' := 140) (l' := #[.val (.long p1), .second, .val (.long p2), .second, .val (.int p3), .val (.int p4), .val (.int p5), .val (.ref b2), .val (.ref r_68), .val (.int (1 : Int32)), .val (.ref b83), .val (.ref r_68), .val (.ref r_68), .val (.ref r_68)]) X96 at_138 rfl rfl rfl ?_
        refine o_aload (pc' := 142) (v := (.ref r_68)) X96 at_140 rfl rfl rfl ?_
        refine o_aload (pc' := 144) (v := (.ref r_68)) X96 at_142 rfl rfl rfl ?_
        refine o_acmp (pc' := 147) (same := true) X96 at_144 rfl rfl (decide_eq_true rfl) (by decide) (by decide) ?_
        refine o_aload (pc' := 149) (v := (.ref r_68)) X96 at_147 rfl rfl rfl ?_
        refine o_aload (pc' := 151) (v := (.ref r_68)) X96 at_149 rfl rfl rfl ?_
        refine o_acmp (pc' := 154) (same := true) X96 at_151 rfl rfl (decide_eq_true rfl) (by decide) (by decide) ?_
        refine o_iconst (pc' := 155) (v := (1 : Int32)) X96 at_154 rfl (by decide) ?_
        refine o_goto (pc' := 159) X96 at_155 (by decide) (by decide) ?_
        exact o_nret (y := (1 : Int32)) (t := .boolean) X96 at_159 rfl (by decide) (by simp) (by decide) (by decide) rfl
  · refine o_ifNo (pc' := 7) X0 at_4 rfl ((if0 _ _).trans (feq hc1).1) ?_
    refine o_lloadN (pc' := 8) (v := p1) X0 at_7 rfl rfl ?_
    refine o_static (pc' := 11) (argsL := [(.long p1)]) (rest := []) (ws' := []) X0 (w_63 hw) (w_64 hw) (w_65 hw) (w_66 hw) (by decide) (lenOf pd_9 rfl) (back_met (W := 0) (rm_longValueOf l Z a0 hw [] zc la kla lvs S_String_COMPACT_STRINGS hzc S_Long_LongCache_cache A_lcache C_lcache (p1) h0 n0 X0.old ) X0 (w_66 hw) (w_65 hw) (by decide) (by decide)) at_8 rfl rfl rfl (Nat.le_of_eq rfl) (by decide) (by decide) qq_fr all0 ?_
    rintro v98 T98 h98 L98 X98 ⟨-, -, Q98⟩ K98
    have z98 := K98.1
    obtain ⟨r_99, rfl, q100⟩ := Q98
    show Go p.tables e below _ (T98.setTop (mkF m 11 #[.val (.long p1), .second, .val (.long p2), .second, .val (.int p3), .val (.int p4), .val (.int p5), .unset, .unset, .unset, .unset, .unset, .unset, .unset] [(.ref r_99)]))
    refine o_astore (pc' := 13) (l' := #[.val (.long p1), .second, .val (.long p2), .second, .val (.int p3), .val (.int p4), .val (.int p5), .val (.ref r_99), .unset, .unset, .unset, .unset, .unset, .unset]) X98 at_11 rfl rfl rfl ?_
    refine o_goto (pc' := 48) X98 at_13 (by decide) (by decide) ?_
    refine o_iload (pc' := 50) (v := p5) X98 at_48 rfl rfl ?_
    refine o_iconst (pc' := 51) (v := (2 : Int32)) X98 at_50 rfl (by decide) ?_
    refine o_iand (pc' := 52) (v := (p5 &&& (2 : Int32))) X98 at_51 rfl rfl ?_
    by_cases hc101 : (p5 &&& (2 : Int32)) = (0 : Int32)
    · refine o_ifYes (pc' := 64) X98 at_52 (by decide) (by decide) ((if0 _ _).trans (teq hc101).1) ?_
      refine o_iload (pc' := 66) (v := p4) X98 at_64 rfl rfl ?_
      refine o_sipush (pc' := 69) (v := (255 : Int32)) X98 at_66 rfl (by decide) ?_
      refine o_iand (pc' := 70) (v := (p4 &&& (255 : Int32))) X98 at_69 rfl rfl ?_
      obtain ⟨c102, ce103⟩ : ∃ z : Int32, (p4 &&& (255 : Int32)).toUInt32.toUInt16.toUInt32.toInt32 = z := ⟨_, rfl⟩
      have cr104 := own_c255 _ _ ce103
      refine o_i2c (pc' := 71) (v := c102) X98 at_70 rfl ce103 ?_
      refine o_static (pc' := 74) (argsL := [(.int c102)]) (rest := []) (ws' := []) X98 (w_30 hw) (w_31 hw) (w_2 hw) (w_32 hw) (by decide) (lenOf pd_6 rfl) (back_met (W := 0) (rm_strValueOfC l Z a0 hw [] zc la kla lvs S_String_COMPACT_STRINGS hzc S_Long_LongCache_cache A_lcache C_lcache (c102) h98 n0 X98.old cr104) X98 (w_32 hw) (w_2 hw) (by decide) (by decide)) at_71 rfl rfl rfl (Nat.le_of_eq rfl) (by decide) (by decide) qq_fr all0 ?_
      rintro v105 T105 h105 L105 X105 ⟨-, -, Q105⟩ K105
      have z105 := K105.1
      obtain ⟨r_106, t_107, kb_108, rfl, q109, q110, q111, q112, q113, q114, q115, q116⟩ := Q105
      show Go p.tables e below _ (T105.setTop (mkF m 74 #[.val (.long p1), .second, .val (.long p2), .second, .val (.int p3), .val (.int p4), .val (.int p5), .val (.ref r_99), .unset, .unset, .unset, .unset, .unset, .unset] [(.ref r_106)]))
      refine o_astore (pc' := 76) (l' := #[.val (.long p1), .second, .val (.long p2), .second, .val (.int p3), .val (.int p4), .val (.int p5), .val (.ref r_99), .val (.ref r_106), .unset, .unset, .unset, .unset, .unset]) X105 at_74 rfl rfl rfl ?_
      refine o_iload (pc' := 78) (v := p5) X105 at_76 rfl rfl ?_
      refine o_iconst (pc' := 79) (v := (4 : Int32)) X105 at_78 rfl (by decide) ?_
      refine o_iand (pc' := 80) (v := (p5 &&& (4 : Int32))) X105 at_79 rfl rfl ?_
      by_cases hc117 : (p5 &&& (4 : Int32)) = (0 : Int32)
      · refine o_ifYes (pc' := 87) X105 at_80 (by decide) (by decide) ((if0 _ _).trans (teq hc117).1) ?_
        refine o_iconst (pc' := 88) (v := (0 : Int32)) X105 at_87 rfl (by decide) ?_
        refine o_istore (pc' := 90) (l' := #[.val (.long p1), .second, .val (.long p2), .second, .val (.int p3), .val (.int p4), .val (.int p5), .val (.ref r_99), .val (.ref r_106), .val (.int (0 : Int32)), .unset, .unset, .unset, .unset]) X105 at_88 rfl rfl ?_
        refine o_new (pc' := 93) X105 (w_44 hw) (w_45 hw) (w_46 hw) at_90 rfl (by decide) (by decide) ?_
        intro T118 h118 b118 X118 g118 l118 E118 A118 D118 U118
        have f119 : Fld Z h118 b118 "com/example/row_lease/rowlease/AssignedKey" "key" "Ljava/lang/Object;" .null := D118 (Or.inl (w_57 hw)) (ty := (.object "java/lang/Object")) (by decide)
        refine o_dup (pc' := 94) X118 at_93 rfl rfl ?_
        refine o_special (pc' := 97) (argsL := []) (rest := [(.ref b118)]) (b := b118) (ws' := []) X118 rfl (w_47 hw) (w_48 hw) (w_49 hw) (by decide) (lenOf pd_0 rfl) (back_met (W := 1) (rm_keyInit l Z a0 hw [] zc la kla lvs S_String_COMPACT_STRINGS hzc S_Long_LongCache_cache A_lcache C_lcache (b118) h118 n0 X118.old ) X118 (w_49 hw) (w_46 hw) (by decide) (by decide)) at_94 rfl rfl rfl (Nat.le_of_eq rfl) (by decide) (by decide) qq_fr all0 ?_
        rintro v120 T120 h120 L120 X120 ⟨-, -, Q120⟩ K120
        have z120 := K120.1
        obtain rfl := Q120
        show Go p.tables e below _ (T120.setTop (mkF m 97 #[.val (.long p1), .second, .val (.long p2), .second, .val (.int p3), .val (.int p4), .val (.int p5), .val (.ref r_99), .val (.ref r_106), .val (.int (0 : Int32)), .unset, .unset, .unset, .unset] [(.ref b118)]))
        refine o_astore (pc' := 99) (l' := #[.val (.long p1), .second, .val (.long p2), .second, .val (.int p3), .val (.int p4), .val (.int p5), .val (.ref r_99), .val (.ref r_106), .val (.int (0 : Int32)), .val (.ref b118), .unset, .unset, .unset]) X120 at_97 rfl rfl rfl ?_
        refine o_aload (pc' := 101) (v := (.ref b118)) X120 at_99 rfl rfl rfl ?_
        refine o_aload (pc' := 103) (v := (.ref r_99)) X120 at_101 rfl rfl rfl ?_
        have f121 := (A118.keep K120)
        have f122 := (f119.keep K120 nin0)
        refine o_virtual (pc' := 106) (argsL := [(.ref r_99)]) (rest := []) (b := b118) (ws' := [b118]) X120 f121 (w_51 hw) (w_52 hw) (w_54 hw) (w_53 hw) (nf_sel (w_54 hw)) (by decide) (lenOf pd_7 rfl) (back_met (W := 0) (rm_assign l Z a0 hw [] zc la kla lvs S_String_COMPACT_STRINGS hzc S_Long_LongCache_cache A_lcache C_lcache (b118) (r_99) (.null) h120 n0 X120.old f121 f122 (by omega)) X120 (w_55 hw) (w_46 hw) (by decide) (by decide)) at_103 rfl rfl rfl (Nat.le_of_eq rfl) (by decide) (by decide) qq_fr (allS ⟨by omega, (Or.inr (by omega))⟩ all0) ?_
        rintro v123 T123 h123 L123 X123 ⟨-, -, Q123⟩ K123
        have z123 := K123.1
        obtain ⟨rfl, q124⟩ := Q123
        show Go p.tables e below _ (T123.setTop (mkF m 106 #[.val (.long p1), .second, .val (.long p2), .second, .val (.int p3), .val (.int p4), .val (.int p5), .val (.ref r_99), .val (.ref r_106), .val (.int (0 : Int32)), .val (.ref b118), .unset, .unset, .unset] []))
        refine o_aload (pc' := 108) (v := (.ref r_99)) X123 at_106 rfl rfl rfl ?_
        refine o_astore (pc' := 110) (l' := #[.val (.long p1), .second, .val (.long p2), .second, .val (.int p3), .val (.int p4), .val (.int p5), .val (.ref r_99), .val (.ref r_106), .val (.int (0 : Int32)), .val (.ref b118), .val (.ref r_99), .unset, .unset]) X123 at_108 rfl rfl rfl ?_
        refine o_iload (pc' := 112) (v := (0 : Int32)) X123 at_110 rfl rfl ?_
        refine o_ifYes (pc' := 126) X123 at_112 (by decide) (by decide) ((if0 _ _).trans (teq (by decide)).1) ?_
        refine o_aload (pc' := 128) (v := (.ref b118)) X123 at_126 rfl rfl rfl ?_
        have f126 := (f121.keep K123)
        refine o_virtual (pc' := 131) (argsL := []) (rest := []) (b := b118) (ws' := []) X123 f126 (w_58 hw) (w_59 hw) (w_61 hw) (w_60 hw) (nf_sel (w_61 hw)) (by decide) (lenOf pd_8 rfl) (back_met (W := 0) (rm_get l Z a0 hw [] zc la kla lvs S_String_COMPACT_STRINGS hzc S_Long_LongCache_cache A_lcache C_lcache (b118) (r_99) h123 n0 X123.old q124) X123 (w_62 hw) (w_46 hw) (by decide) (by decide)) at_128 rfl rfl rfl (Nat.le_of_eq rfl) (by decide) (by decide) qq_fr all0 ?_
        rintro v125 T125 h125 L125 X125 ⟨-, -, Q125⟩ K125
        have z125 := K125.1
        obtain rfl := Q125
        show Go p.tables e below _ (T125.setTop (mkF m 131 #[.val (.long p1), .second, .val (.long p2), .second, .val (.int p3), .val (.int p4), .val (.int p5), .val (.ref r_99), .val (.ref r_106), .val (.int (0 : Int32)), .val (.ref b118), .val (.ref r_99), .unset, .unset] [(.ref r_99)]))
        refine o_astore (pc' := 133) (l' := #[.val (.long p1), .second, .val (.long p2), .second, .val (.int p3), .val (.int p4), .val (.int p5), .val (.ref r_99), .val (.ref r_106), .val (.int (0 : Int32)), .val (.ref b118), .val (.ref r_99), .val (.ref r_99), .unset]) X125 at_131 rfl rfl rfl ?_
        refine o_aload (pc' := 135) (v := (.ref b118)) X125 at_133 rfl rfl rfl ?_
        have f127 := (q124.keep K125 nin0)
        have f129 := (f126.keep K125)
        refine o_virtual (pc' := 138) (argsL := []) (rest := []) (b := b118) (ws' := []) X125 f129 (w_58 hw) (w_59 hw) (w_61 hw) (w_60 hw) (nf_sel (w_61 hw)) (by decide) (lenOf pd_8 rfl) (back_met (W := 0) (rm_get l Z a0 hw [] zc la kla lvs S_String_COMPACT_STRINGS hzc S_Long_LongCache_cache A_lcache C_lcache (b118) (r_99) h125 n0 X125.old f127) X125 (w_62 hw) (w_46 hw) (by decide) (by decide)) at_135 rfl rfl rfl (Nat.le_of_eq rfl) (by decide) (by decide) qq_fr all0 ?_
        rintro v128 T128 h128 L128 X128 ⟨-, -, Q128⟩ K128
        have z128 := K128.1
        obtain rfl := Q128
        show Go p.tables e below _ (T128.setTop (mkF m 138 #[.val (.long p1), .second, .val (.long p2), .second, .val (.int p3), .val (.int p4), .val (.int p5), .val (.ref r_99), .val (.ref r_106), .val (.int (0 : Int32)), .val (.ref b118), .val (.ref r_99), .val (.ref r_99), .unset] [(.ref r_99)]))
        refine o_astore (pc' := 140) (l' := #[.val (.long p1), .second, .val (.long p2), .second, .val (.int p3), .val (.int p4), .val (.int p5), .val (.ref r_99), .val (.ref r_106), .val (.int (0 : Int32)), .val (.ref b118), .val (.ref r_99), .val (.ref r_99), .val (.ref r_99)]) X128 at_138 rfl rfl rfl ?_
        refine o_aload (pc' := 142) (v := (.ref r_99)) X128 at_140 rfl rfl rfl ?_
        refine o_aload (pc' := 144) (v := (.ref r_99)) X128 at_142 rfl rfl rfl ?_
        refine o_acmp (pc' := 147) (same := true) X128 at_144 rfl rfl (decide_eq_true rfl) (by decide) (by decide) ?_
        refine o_aload (pc' := 149) (v := (.ref r_99)) X128 at_147 rfl rfl rfl ?_
        refine o_aload (pc' := 151) (v := (.ref r_99)) X128 at_149 rfl rfl rfl ?_
        refine o_acmp (pc' := 154) (same := true) X128 at_151 rfl rfl (decide_eq_true rfl) (by decide) (by decide) ?_
        refine o_iconst (pc' := 155) (v := (1 : Int32)) X128 at_154 rfl (by decide) ?_
        refine o_goto (pc' := 159) X128 at_155 (by decide) (by decide) ?_
        exact o_nret (y := (1 : Int32)) (t := .boolean) X128 at_159 rfl (by decide) (by simp) (by decide) (by decide) rfl
      · refine o_ifNo (pc' := 83) X105 at_80 rfl ((if0 _ _).trans (feq hc117).1) ?_
        refine o_iconst (pc' := 84) (v := (1 : Int32)) X105 at_83 rfl (by decide) ?_
        refine o_goto (pc' := 88) X105 at_84 (by decide) (by decide) ?_
        refine o_istore (pc' := 90) (l' := #[.val (.long p1), .second, .val (.long p2), .second, .val (.int p3), .val (.int p4), .val (.int p5), .val (.ref r_99), .val (.ref r_106), .val (.int (1 : Int32)), .unset, .unset, .unset, .unset]) X105 at_88 rfl rfl ?_
        refine o_new (pc' := 93) X105 (w_44 hw) (w_45 hw) (w_46 hw) at_90 rfl (by decide) (by decide) ?_
        intro T130 h130 b130 X130 g130 l130 E130 A130 D130 U130
        have f131 : Fld Z h130 b130 "com/example/row_lease/rowlease/AssignedKey" "key" "Ljava/lang/Object;" .null := D130 (Or.inl (w_57 hw)) (ty := (.object "java/lang/Object")) (by decide)
        refine o_dup (pc' := 94) X130 at_93 rfl rfl ?_
        refine o_special (pc' := 97) (argsL := []) (rest := [(.ref b130)]) (b := b130) (ws' := []) X130 rfl (w_47 hw) (w_48 hw) (w_49 hw) (by decide) (lenOf pd_0 rfl) (back_met (W := 1) (rm_keyInit l Z a0 hw [] zc la kla lvs S_String_COMPACT_STRINGS hzc S_Long_LongCache_cache A_lcache C_lcache (b130) h130 n0 X130.old ) X130 (w_49 hw) (w_46 hw) (by decide) (by decide)) at_94 rfl rfl rfl (Nat.le_of_eq rfl) (by decide) (by decide) qq_fr all0 ?_
        rintro v132 T132 h132 L132 X132 ⟨-, -, Q132⟩ K132
        have z132 := K132.1
        obtain rfl := Q132
        show Go p.tables e below _ (T132.setTop (mkF m 97 #[.val (.long p1), .second, .val (.long p2), .second, .val (.int p3), .val (.int p4), .val (.int p5), .val (.ref r_99), .val (.ref r_106), .val (.int (1 : Int32)), .unset, .unset, .unset, .unset] [(.ref b130)]))
        refine o_astore (pc' := 99) (l' := #[.val (.long p1), .second, .val (.long p2), .second, .val (.int p3), .val (.int p4), .val (.int p5), .val (.ref r_99), .val (.ref r_106), .val (.int (1 : Int32)), .val (.ref b130), .unset, .unset, .unset]) X132 at_97 rfl rfl rfl ?_
        refine o_aload (pc' := 101) (v := (.ref b130)) X132 at_99 rfl rfl rfl ?_
        refine o_aload (pc' := 103) (v := (.ref r_99)) X132 at_101 rfl rfl rfl ?_
        have f133 := (A130.keep K132)
        have f134 := (f131.keep K132 nin0)
        refine o_virtual (pc' := 106) (argsL := [(.ref r_99)]) (rest := []) (b := b130) (ws' := [b130]) X132 f133 (w_51 hw) (w_52 hw) (w_54 hw) (w_53 hw) (nf_sel (w_54 hw)) (by decide) (lenOf pd_7 rfl) (back_met (W := 0) (rm_assign l Z a0 hw [] zc la kla lvs S_String_COMPACT_STRINGS hzc S_Long_LongCache_cache A_lcache C_lcache (b130) (r_99) (.null) h132 n0 X132.old f133 f134 (by omega)) X132 (w_55 hw) (w_46 hw) (by decide) (by decide)) at_103 rfl rfl rfl (Nat.le_of_eq rfl) (by decide) (by decide) qq_fr (allS ⟨by omega, (Or.inr (by omega))⟩ all0) ?_
        rintro v135 T135 h135 L135 X135 ⟨-, -, Q135⟩ K135
        have z135 := K135.1
        obtain ⟨rfl, q136⟩ := Q135
        show Go p.tables e below _ (T135.setTop (mkF m 106 #[.val (.long p1), .second, .val (.long p2), .second, .val (.int p3), .val (.int p4), .val (.int p5), .val (.ref r_99), .val (.ref r_106), .val (.int (1 : Int32)), .val (.ref b130), .unset, .unset, .unset] []))
        refine o_aload (pc' := 108) (v := (.ref r_99)) X135 at_106 rfl rfl rfl ?_
        refine o_astore (pc' := 110) (l' := #[.val (.long p1), .second, .val (.long p2), .second, .val (.int p3), .val (.int p4), .val (.int p5), .val (.ref r_99), .val (.ref r_106), .val (.int (1 : Int32)), .val (.ref b130), .val (.ref r_99), .unset, .unset]) X135 at_108 rfl rfl rfl ?_
        refine o_iload (pc' := 112) (v := (1 : Int32)) X135 at_110 rfl rfl ?_
        refine o_ifNo (pc' := 115) X135 at_112 rfl ((if0 _ _).trans (feq (by decide)).1) ?_
        refine o_aload (pc' := 117) (v := (.ref b130)) X135 at_115 rfl rfl rfl ?_
        refine o_aload (pc' := 119) (v := (.ref r_106)) X135 at_117 rfl rfl rfl ?_
        have f137 := (f133.keep K135)
        refine o_virtual (pc' := 122) (argsL := [(.ref r_106)]) (rest := []) (b := b130) (ws' := [b130]) X135 f137 (w_51 hw) (w_52 hw) (w_54 hw) (w_53 hw) (nf_sel (w_54 hw)) (by decide) (lenOf pd_7 rfl) (back_met (W := 0) (rm_assign l Z a0 hw [] zc la kla lvs S_String_COMPACT_STRINGS hzc S_Long_LongCache_cache A_lcache C_lcache (b130) (r_106) ((.ref r_99)) h135 n0 X135.old f137 q136 (by omega)) X135 (w_55 hw) (w_46 hw) (by decide) (by decide)) at_119 rfl rfl rfl (Nat.le_of_eq rfl) (by decide) (by decide) qq_fr (allS ⟨by omega, (Or.inr (by omega))⟩ all0) ?_
        rintro v138 T138 h138 L138 X138 ⟨-, -, Q138⟩ K138
        have z138 := K138.1
        obtain ⟨rfl, q139⟩ := Q138
        show Go p.tables e below _ (T138.setTop (mkF m 122 #[.val (.long p1), .second, .val (.long p2), .second, .val (.int p3), .val (.int p4), .val (.int p5), .val (.ref r_99), .val (.ref r_106), .val (.int (1 : Int32)), .val (.ref b130), .val (.ref r_99), .unset, .unset] []))
        refine o_aload (pc' := 124) (v := (.ref r_106)) X138 at_122 rfl rfl rfl ?_
        refine o_astore (pc' := 126) (l' := #[.val (.long p1), .second, .val (.long p2), .second, .val (.int p3), .val (.int p4), .val (.int p5), .val (.ref r_99), .val (.ref r_106), .val (.int (1 : Int32)), .val (.ref b130), .val (.ref r_106), .unset, .unset]) X138 at_124 rfl rfl rfl ?_
        refine o_aload (pc' := 128) (v := (.ref b130)) X138 at_126 rfl rfl rfl ?_
        have f141 := (f137.keep K138)
        refine o_virtual (pc' := 131) (argsL := []) (rest := []) (b := b130) (ws' := []) X138 f141 (w_58 hw) (w_59 hw) (w_61 hw) (w_60 hw) (nf_sel (w_61 hw)) (by decide) (lenOf pd_8 rfl) (back_met (W := 0) (rm_get l Z a0 hw [] zc la kla lvs S_String_COMPACT_STRINGS hzc S_Long_LongCache_cache A_lcache C_lcache (b130) (r_106) h138 n0 X138.old q139) X138 (w_62 hw) (w_46 hw) (by decide) (by decide)) at_128 rfl rfl rfl (Nat.le_of_eq rfl) (by decide) (by decide) qq_fr all0 ?_
        rintro v140 T140 h140 L140 X140 ⟨-, -, Q140⟩ K140
        have z140 := K140.1
        obtain rfl := Q140
        show Go p.tables e below _ (T140.setTop (mkF m 131 #[.val (.long p1), .second, .val (.long p2), .second, .val (.int p3), .val (.int p4), .val (.int p5), .val (.ref r_99), .val (.ref r_106), .val (.int (1 : Int32)), .val (.ref b130), .val (.ref r_106), .unset, .unset] [(.ref r_106)]))
        refine o_astore (pc' := 133) (l' := #[.val (.long p1), .second, .val (.long p2), .second, .val (.int p3), .val (.int p4), .val (.int p5), .val (.ref r_99), .val (.ref r_106), .val (.int (1 : Int32)), .val (.ref b130), .val (.ref r_106), .val (.ref r_106), .unset]) X140 at_131 rfl rfl rfl ?_
        refine o_aload (pc' := 135) (v := (.ref b130)) X140 at_133 rfl rfl rfl ?_
        have f142 := (q139.keep K140 nin0)
        have f144 := (f141.keep K140)
        refine o_virtual (pc' := 138) (argsL := []) (rest := []) (b := b130) (ws' := []) X140 f144 (w_58 hw) (w_59 hw) (w_61 hw) (w_60 hw) (nf_sel (w_61 hw)) (by decide) (lenOf pd_8 rfl) (back_met (W := 0) (rm_get l Z a0 hw [] zc la kla lvs S_String_COMPACT_STRINGS hzc S_Long_LongCache_cache A_lcache C_lcache (b130) (r_106) h140 n0 X140.old f142) X140 (w_62 hw) (w_46 hw) (by decide) (by decide)) at_135 rfl rfl rfl (Nat.le_of_eq rfl) (by decide) (by decide) qq_fr all0 ?_
        rintro v143 T143 h143 L143 X143 ⟨-, -, Q143⟩ K143
        have z143 := K143.1
        obtain rfl := Q143
        show Go p.tables e below _ (T143.setTop (mkF m 138 #[.val (.long p1), .second, .val (.long p2), .second, .val (.int p3), .val (.int p4), .val (.int p5), .val (.ref r_99), .val (.ref r_106), .val (.int (1 : Int32)), .val (.ref b130), .val (.ref r_106), .val (.ref r_106), .unset] [(.ref r_106)]))
        refine o_astore (pc' := 140) (l' := #[.val (.long p1), .second, .val (.long p2), .second, .val (.int p3), .val (.int p4), .val (.int p5), .val (.ref r_99), .val (.ref r_106), .val (.int (1 : Int32)), .val (.ref b130), .val (.ref r_106), .val (.ref r_106), .val (.ref r_106)]) X143 at_138 rfl rfl rfl ?_
        refine o_aload (pc' := 142) (v := (.ref r_106)) X143 at_140 rfl rfl rfl ?_
        refine o_aload (pc' := 144) (v := (.ref r_106)) X143 at_142 rfl rfl rfl ?_
        refine o_acmp (pc' := 147) (same := true) X143 at_144 rfl rfl (decide_eq_true rfl) (by decide) (by decide) ?_
        refine o_aload (pc' := 149) (v := (.ref r_106)) X143 at_147 rfl rfl rfl ?_
        refine o_aload (pc' := 151) (v := (.ref r_106)) X143 at_149 rfl rfl rfl ?_
        refine o_acmp (pc' := 154) (same := true) X143 at_151 rfl rfl (decide_eq_true rfl) (by decide) (by decide) ?_
        refine o_iconst (pc' := 155) (v := (1 : Int32)) X143 at_154 rfl (by decide) ?_
        refine o_goto (pc' := 159) X143 at_155 (by decide) (by decide) ?_
        exact o_nret (y := (1 : Int32)) (t := .boolean) X143 at_159 rfl (by decide) (by simp) (by decide) (by decide) rfl
    · refine o_ifNo (pc' := 55) X98 at_52 rfl ((if0 _ _).trans (feq hc101).1) ?_
      refine o_lloadN (pc' := 56) (v := p2) X98 at_55 rfl rfl ?_
      refine o_static (pc' := 59) (argsL := [(.long p2)]) (rest := []) (ws' := []) X98 (w_63 hw) (w_64 hw) (w_65 hw) (w_66 hw) (by decide) (lenOf pd_9 rfl) (back_met (W := 0) (rm_longValueOf l Z a0 hw [] zc la kla lvs S_String_COMPACT_STRINGS hzc S_Long_LongCache_cache A_lcache C_lcache (p2) h98 n0 X98.old ) X98 (w_66 hw) (w_65 hw) (by decide) (by decide)) at_56 rfl rfl rfl (Nat.le_of_eq rfl) (by decide) (by decide) qq_fr all0 ?_
      rintro v145 T145 h145 L145 X145 ⟨-, -, Q145⟩ K145
      have z145 := K145.1
      obtain ⟨r_146, rfl, q147⟩ := Q145
      show Go p.tables e below _ (T145.setTop (mkF m 59 #[.val (.long p1), .second, .val (.long p2), .second, .val (.int p3), .val (.int p4), .val (.int p5), .val (.ref r_99), .unset, .unset, .unset, .unset, .unset, .unset] [(.ref r_146)]))
      refine o_astore (pc' := 61) (l' := #[.val (.long p1), .second, .val (.long p2), .second, .val (.int p3), .val (.int p4), .val (.int p5), .val (.ref r_99), .val (.ref r_146), .unset, .unset, .unset, .unset, .unset]) X145 at_59 rfl rfl rfl ?_
      refine o_goto (pc' := 76) X145 at_61 (by decide) (by decide) ?_
      refine o_iload (pc' := 78) (v := p5) X145 at_76 rfl rfl ?_
      refine o_iconst (pc' := 79) (v := (4 : Int32)) X145 at_78 rfl (by decide) ?_
      refine o_iand (pc' := 80) (v := (p5 &&& (4 : Int32))) X145 at_79 rfl rfl ?_
      by_cases hc148 : (p5 &&& (4 : Int32)) = (0 : Int32)
      · refine o_ifYes (pc' := 87) X145 at_80 (by decide) (by decide) ((if0 _ _).trans (teq hc148).1) ?_
        refine o_iconst (pc' := 88) (v := (0 : Int32)) X145 at_87 rfl (by decide) ?_
        refine o_istore (pc' := 90) (l' := #[.val (.long p1), .second, .val (.long p2), .second, .val (.int p3), .val (.int p4), .val (.int p5), .val (.ref r_99), .val (.ref r_146), .val (.int (0 : Int32)), .unset, .unset, .unset, .unset]) X145 at_88 rfl rfl ?_
        refine o_new (pc' := 93) X145 (w_44 hw) (w_45 hw) (w_46 hw) at_90 rfl (by decide) (by decide) ?_
        intro T149 h149 b149 X149 g149 l149 E149 A149 D149 U149
        have f150 : Fld Z h149 b149 "com/example/row_lease/rowlease/AssignedKey" "key" "Ljava/lang/Object;" .null := D149 (Or.inl (w_57 hw)) (ty := (.object "java/lang/Object")) (by decide)
        refine o_dup (pc' := 94) X149 at_93 rfl rfl ?_
        refine o_special (pc' := 97) (argsL := []) (rest := [(.ref b149)]) (b := b149) (ws' := []) X149 rfl (w_47 hw) (w_48 hw) (w_49 hw) (by decide) (lenOf pd_0 rfl) (back_met (W := 1) (rm_keyInit l Z a0 hw [] zc la kla lvs S_String_COMPACT_STRINGS hzc S_Long_LongCache_cache A_lcache C_lcache (b149) h149 n0 X149.old ) X149 (w_49 hw) (w_46 hw) (by decide) (by decide)) at_94 rfl rfl rfl (Nat.le_of_eq rfl) (by decide) (by decide) qq_fr all0 ?_
        rintro v151 T151 h151 L151 X151 ⟨-, -, Q151⟩ K151
        have z151 := K151.1
        obtain rfl := Q151
        show Go p.tables e below _ (T151.setTop (mkF m 97 #[.val (.long p1), .second, .val (.long p2), .second, .val (.int p3), .val (.int p4), .val (.int p5), .val (.ref r_99), .val (.ref r_146), .val (.int (0 : Int32)), .unset, .unset, .unset, .unset] [(.ref b149)]))
        refine o_astore (pc' := 99) (l' := #[.val (.long p1), .second, .val (.long p2), .second, .val (.int p3), .val (.int p4), .val (.int p5), .val (.ref r_99), .val (.ref r_146), .val (.int (0 : Int32)), .val (.ref b149), .unset, .unset, .unset]) X151 at_97 rfl rfl rfl ?_
        refine o_aload (pc' := 101) (v := (.ref b149)) X151 at_99 rfl rfl rfl ?_
        refine o_aload (pc' := 103) (v := (.ref r_99)) X151 at_101 rfl rfl rfl ?_
        have f152 := (A149.keep K151)
        have f153 := (f150.keep K151 nin0)
        refine o_virtual (pc' := 106) (argsL := [(.ref r_99)]) (rest := []) (b := b149) (ws' := [b149]) X151 f152 (w_51 hw) (w_52 hw) (w_54 hw) (w_53 hw) (nf_sel (w_54 hw)) (by decide) (lenOf pd_7 rfl) (back_met (W := 0) (rm_assign l Z a0 hw [] zc la kla lvs S_String_COMPACT_STRINGS hzc S_Long_LongCache_cache A_lcache C_lcache (b149) (r_99) (.null) h151 n0 X151.old f152 f153 (by omega)) X151 (w_55 hw) (w_46 hw) (by decide) (by decide)) at_103 rfl rfl rfl (Nat.le_of_eq rfl) (by decide) (by decide) qq_fr (allS ⟨by omega, (Or.inr (by omega))⟩ all0) ?_
        rintro v154 T154 h154 L154 X154 ⟨-, -, Q154⟩ K154
        have z154 := K154.1
        obtain ⟨rfl, q155⟩ := Q154
        show Go p.tables e below _ (T154.setTop (mkF m 106 #[.val (.long p1), .second, .val (.long p2), .second, .val (.int p3), .val (.int p4), .val (.int p5), .val (.ref r_99), .val (.ref r_146), .val (.int (0 : Int32)), .val (.ref b149), .unset, .unset, .unset] []))
        refine o_aload (pc' := 108) (v := (.ref r_99)) X154 at_106 rfl rfl rfl ?_
        refine o_astore (pc' := 110) (l' := #[.val (.long p1), .second, .val (.long p2), .second, .val (.int p3), .val (.int p4), .val (.int p5), .val (.ref r_99), .val (.ref r_146), .val (.int (0 : Int32)), .val (.ref b149), .val (.ref r_99), .unset, .unset]) X154 at_108 rfl rfl rfl ?_
        refine o_iload (pc' := 112) (v := (0 : Int32)) X154 at_110 rfl rfl ?_
        refine o_ifYes (pc' := 126) X154 at_112 (by decide) (by decide) ((if0 _ _).trans (teq (by decide)).1) ?_
        refine o_aload (pc' := 128) (v := (.ref b149)) X154 at_126 rfl rfl rfl ?_
        have f157 := (f152.keep K154)
        refine o_virtual (pc' := 131) (argsL := []) (rest := []) (b := b149) (ws' := []) X154 f157 (w_58 hw) (w_59 hw) (w_61 hw) (w_60 hw) (nf_sel (w_61 hw)) (by decide) (lenOf pd_8 rfl) (back_met (W := 0) (rm_get l Z a0 hw [] zc la kla lvs S_String_COMPACT_STRINGS hzc S_Long_LongCache_cache A_lcache C_lcache (b149) (r_99) h154 n0 X154.old q155) X154 (w_62 hw) (w_46 hw) (by decide) (by decide)) at_128 rfl rfl rfl (Nat.le_of_eq rfl) (by decide) (by decide) qq_fr all0 ?_
        rintro v156 T156 h156 L156 X156 ⟨-, -, Q156⟩ K156
        have z156 := K156.1
        obtain rfl := Q156
        show Go p.tables e below _ (T156.setTop (mkF m 131 #[.val (.long p1), .second, .val (.long p2), .second, .val (.int p3), .val (.int p4), .val (.int p5), .val (.ref r_99), .val (.ref r_146), .val (.int (0 : Int32)), .val (.ref b149), .val (.ref r_99), .unset, .unset] [(.ref r_99)]))
        refine o_astore (pc' := 133) (l' := #[.val (.long p1), .second, .val (.long p2), .second, .val (.int p3), .val (.int p4), .val (.int p5), .val (.ref r_99), .val (.ref r_146), .val (.int (0 : Int32)), .val (.ref b149), .val (.ref r_99), .val (.ref r_99), .unset]) X156 at_131 rfl rfl rfl ?_
        refine o_aload (pc' := 135) (v := (.ref b149)) X156 at_133 rfl rfl rfl ?_
        have f158 := (q155.keep K156 nin0)
        have f160 := (f157.keep K156)
        refine o_virtual (pc' := 138) (argsL := []) (rest := []) (b := b149) (ws' := []) X156 f160 (w_58 hw) (w_59 hw) (w_61 hw) (w_60 hw) (nf_sel (w_61 hw)) (by decide) (lenOf pd_8 rfl) (back_met (W := 0) (rm_get l Z a0 hw [] zc la kla lvs S_String_COMPACT_STRINGS hzc S_Long_LongCache_cache A_lcache C_lcache (b149) (r_99) h156 n0 X156.old f158) X156 (w_62 hw) (w_46 hw) (by decide) (by decide)) at_135 rfl rfl rfl (Nat.le_of_eq rfl) (by decide) (by decide) qq_fr all0 ?_
        rintro v159 T159 h159 L159 X159 ⟨-, -, Q159⟩ K159
        have z159 := K159.1
        obtain rfl := Q159
        show Go p.tables e below _ (T159.setTop (mkF m 138 #[.val (.long p1), .second, .val (.long p2), .second, .val (.int p3), .val (.int p4), .val (.int p5), .val (.ref r_99), .val (.ref r_146), .val (.int (0 : Int32)), .val (.ref b149), .val (.ref r_99), .val (.ref r_99), .unset] [(.ref r_99)]))
        refine o_astore (pc' := 140) (l' := #[.val (.long p1), .second, .val (.long p2), .second, .val (.int p3), .val (.int p4), .val (.int p5), .val (.ref r_99), .val (.ref r_146), .val (.int (0 : Int32)), .val (.ref b149), .val (.ref r_99), .val (.ref r_99), .val (.ref r_99)]) X159 at_138 rfl rfl rfl ?_
        refine o_aload (pc' := 142) (v := (.ref r_99)) X159 at_140 rfl rfl rfl ?_
        refine o_aload (pc' := 144) (v := (.ref r_99)) X159 at_142 rfl rfl rfl ?_
        refine o_acmp (pc' := 147) (same := true) X159 at_144 rfl rfl (decide_eq_true rfl) (by decide) (by decide) ?_
        refine o_aload (pc' := 149) (v := (.ref r_99)) X159 at_147 rfl rfl rfl ?_
        refine o_aload (pc' := 151) (v := (.ref r_99)) X159 at_149 rfl rfl rfl ?_
        refine o_acmp (pc' := 154) (same := true) X159 at_151 rfl rfl (decide_eq_true rfl) (by decide) (by decide) ?_
        refine o_iconst (pc' := 155) (v := (1 : Int32)) X159 at_154 rfl (by decide) ?_
        refine o_goto (pc' := 159) X159 at_155 (by decide) (by decide) ?_
        exact o_nret (y := (1 : Int32)) (t := .boolean) X159 at_159 rfl (by decide) (by simp) (by decide) (by decide) rfl
      · refine o_ifNo (pc' := 83) X145 at_80 rfl ((if0 _ _).trans (feq hc148).1) ?_
        refine o_iconst (pc' := 84) (v := (1 : Int32)) X145 at_83 rfl (by decide) ?_
        refine o_goto (pc' := 88) X145 at_84 (by decide) (by decide) ?_
        refine o_istore (pc' := 90) (l' := #[.val (.long p1), .second, .val (.long p2), .second, .val (.int p3), .val (.int p4), .val (.int p5), .val (.ref r_99), .val (.ref r_146), .val (.int (1 : Int32)), .unset, .unset, .unset, .unset]) X145 at_88 rfl rfl ?_
        refine o_new (pc' := 93) X145 (w_44 hw) (w_45 hw) (w_46 hw) at_90 rfl (by decide) (by decide) ?_
        intro T161 h161 b161 X161 g161 l161 E161 A161 D161 U161
        have f162 : Fld Z h161 b161 "com/example/row_lease/rowlease/AssignedKey" "key" "Ljava/lang/Object;" .null := D161 (Or.inl (w_57 hw)) (ty := (.object "java/lang/Object")) (by decide)
        refine o_dup (pc' := 94) X161 at_93 rfl rfl ?_
        refine o_special (pc' := 97) (argsL := []) (rest := [(.ref b161)]) (b := b161) (ws' := []) X161 rfl (w_47 hw) (w_48 hw) (w_49 hw) (by decide) (lenOf pd_0 rfl) (back_met (W := 1) (rm_keyInit l Z a0 hw [] zc la kla lvs S_String_COMPACT_STRINGS hzc S_Long_LongCache_cache A_lcache C_lcache (b161) h161 n0 X161.old ) X161 (w_49 hw) (w_46 hw) (by decide) (by decide)) at_94 rfl rfl rfl (Nat.le_of_eq rfl) (by decide) (by decide) qq_fr all0 ?_
        rintro v163 T163 h163 L163 X163 ⟨-, -, Q163⟩ K163
        have z163 := K163.1
        obtain rfl := Q163
        show Go p.tables e below _ (T163.setTop (mkF m 97 #[.val (.long p1), .second, .val (.long p2), .second, .val (.int p3), .val (.int p4), .val (.int p5), .val (.ref r_99), .val (.ref r_146), .val (.int (1 : Int32)), .unset, .unset, .unset, .unset] [(.ref b161)]))
        refine o_astore (pc' := 99) (l' := #[.val (.long p1), .second, .val (.long p2), .second, .val (.int p3), .val (.int p4), .val (.int p5), .val (.ref r_99), .val (.ref r_146), .val (.int (1 : Int32)), .val (.ref b161), .unset, .unset, .unset]) X163 at_97 rfl rfl rfl ?_
        refine o_aload (pc' := 101) (v := (.ref b161)) X163 at_99 rfl rfl rfl ?_
        refine o_aload (pc' := 103) (v := (.ref r_99)) X163 at_101 rfl rfl rfl ?_
        have f164 := (A161.keep K163)
        have f165 := (f162.keep K163 nin0)
        refine o_virtual (pc' := 106) (argsL := [(.ref r_99)]) (rest := []) (b := b161) (ws' := [b161]) X163 f164 (w_51 hw) (w_52 hw) (w_54 hw) (w_53 hw) (nf_sel (w_54 hw)) (by decide) (lenOf pd_7 rfl) (back_met (W := 0) (rm_assign l Z a0 hw [] zc la kla lvs S_String_COMPACT_STRINGS hzc S_Long_LongCache_cache A_lcache C_lcache (b161) (r_99) (.null) h163 n0 X163.old f164 f165 (by omega)) X163 (w_55 hw) (w_46 hw) (by decide) (by decide)) at_103 rfl rfl rfl (Nat.le_of_eq rfl) (by decide) (by decide) qq_fr (allS ⟨by omega, (Or.inr (by omega))⟩ all0) ?_
        rintro v166 T166 h166 L166 X166 ⟨-, -, Q166⟩ K166
        have z166 := K166.1
        obtain ⟨rfl, q167⟩ := Q166
        show Go p.tables e below _ (T166.setTop (mkF m 106 #[.val (.long p1), .second, .val (.long p2), .second, .val (.int p3), .val (.int p4), .val (.int p5), .val (.ref r_99), .val (.ref r_146), .val (.int (1 : Int32)), .val (.ref b161), .unset, .unset, .unset] []))
        refine o_aload (pc' := 108) (v := (.ref r_99)) X166 at_106 rfl rfl rfl ?_
        refine o_astore (pc' := 110) (l' := #[.val (.long p1), .second, .val (.long p2), .second, .val (.int p3), .val (.int p4), .val (.int p5), .val (.ref r_99), .val (.ref r_146), .val (.int (1 : Int32)), .val (.ref b161), .val (.ref r_99), .unset, .unset]) X166 at_108 rfl rfl rfl ?_
        refine o_iload (pc' := 112) (v := (1 : Int32)) X166 at_110 rfl rfl ?_
        refine o_ifNo (pc' := 115) X166 at_112 rfl ((if0 _ _).trans (feq (by decide)).1) ?_
        refine o_aload (pc' := 117) (v := (.ref b161)) X166 at_115 rfl rfl rfl ?_
        refine o_aload (pc' := 119) (v := (.ref r_146)) X166 at_117 rfl rfl rfl ?_
        have f168 := (f164.keep K166)
        refine o_virtual (pc' := 122) (argsL := [(.ref r_146)]) (rest := []) (b := b161) (ws' := [b161]) X166 f168 (w_51 hw) (w_52 hw) (w_54 hw) (w_53 hw) (nf_sel (w_54 hw)) (by decide) (lenOf pd_7 rfl) (back_met (W := 0) (rm_assign l Z a0 hw [] zc la kla lvs S_String_COMPACT_STRINGS hzc S_Long_LongCache_cache A_lcache C_lcache (b161) (r_146) ((.ref r_99)) h166 n0 X166.old f168 q167 (by omega)) X166 (w_55 hw) (w_46 hw) (by decide) (by decide)) at_119 rfl rfl rfl (Nat.le_of_eq rfl) (by decide) (by decide) qq_fr (allS ⟨by omega, (Or.inr (by omega))⟩ all0) ?_
        rintro v169 T169 h169 L169 X169 ⟨-, -, Q169⟩ K169
        have z169 := K169.1
        obtain ⟨rfl, q170⟩ := Q169
        show Go p.tables e below _ (T169.setTop (mkF m 122 #[.val (.long p1), .second, .val (.long p2), .second, .val (.int p3), .val (.int p4), .val (.int p5), .val (.ref r_99), .val (.ref r_146), .val (.int (1 : Int32)), .val (.ref b161), .val (.ref r_99), .unset, .unset] []))
        refine o_aload (pc' := 124) (v := (.ref r_146)) X169 at_122 rfl rfl rfl ?_
        refine o_astore (pc' := 126) (l' := #[.val (.long p1), .second, .val (.long p2), .second, .val (.int p3), .val (.int p4), .val (.int p5), .val (.ref r_99), .val (.ref r_146), .val (.int (1 : Int32)), .val (.ref b161), .val (.ref r_146), .unset, .unset]) X169 at_124 rfl rfl rfl ?_
        refine o_aload (pc' := 128) (v := (.ref b161)) X169 at_126 rfl rfl rfl ?_
        have f172 := (f168.keep K169)
        refine o_virtual (pc' := 131) (argsL := []) (rest := []) (b := b161) (ws' := []) X169 f172 (w_58 hw) (w_59 hw) (w_61 hw) (w_60 hw) (nf_sel (w_61 hw)) (by decide) (lenOf pd_8 rfl) (back_met (W := 0) (rm_get l Z a0 hw [] zc la kla lvs S_String_COMPACT_STRINGS hzc S_Long_LongCache_cache A_lcache C_lcache (b161) (r_146) h169 n0 X169.old q170) X169 (w_62 hw) (w_46 hw) (by decide) (by decide)) at_128 rfl rfl rfl (Nat.le_of_eq rfl) (by decide) (by decide) qq_fr all0 ?_
        rintro v171 T171 h171 L171 X171 ⟨-, -, Q171⟩ K171
        have z171 := K171.1
        obtain rfl := Q171
        show Go p.tables e below _ (T171.setTop (mkF m 131 #[.val (.long p1), .second, .val (.long p2), .second, .val (.int p3), .val (.int p4), .val (.int p5), .val (.ref r_99), .val (.ref r_146), .val (.int (1 : Int32)), .val (.ref b161), .val (.ref r_146), .unset, .unset] [(.ref r_146)]))
        refine o_astore (pc' := 133) (l' := #[.val (.long p1), .second, .val (.long p2), .second, .val (.int p3), .val (.int p4), .val (.int p5), .val (.ref r_99), .val (.ref r_146), .val (.int (1 : Int32)), .val (.ref b161), .val (.ref r_146), .val (.ref r_146), .unset]) X171 at_131 rfl rfl rfl ?_
        refine o_aload (pc' := 135) (v := (.ref b161)) X171 at_133 rfl rfl rfl ?_
        have f173 := (q170.keep K171 nin0)
        have f175 := (f172.keep K171)
        refine o_virtual (pc' := 138) (argsL := []) (rest := []) (b := b161) (ws' := []) X171 f175 (w_58 hw) (w_59 hw) (w_61 hw) (w_60 hw) (nf_sel (w_61 hw)) (by decide) (lenOf pd_8 rfl) (back_met (W := 0) (rm_get l Z a0 hw [] zc la kla lvs S_String_COMPACT_STRINGS hzc S_Long_LongCache_cache A_lcache C_lcache (b161) (r_146) h171 n0 X171.old f173) X171 (w_62 hw) (w_46 hw) (by decide) (by decide)) at_135 rfl rfl rfl (Nat.le_of_eq rfl) (by decide) (by decide) qq_fr all0 ?_
        rintro v174 T174 h174 L174 X174 ⟨-, -, Q174⟩ K174
        have z174 := K174.1
        obtain rfl := Q174
        show Go p.tables e below _ (T174.setTop (mkF m 138 #[.val (.long p1), .second, .val (.long p2), .second, .val (.int p3), .val (.int p4), .val (.int p5), .val (.ref r_99), .val (.ref r_146), .val (.int (1 : Int32)), .val (.ref b161), .val (.ref r_146), .val (.ref r_146), .unset] [(.ref r_146)]))
        refine o_astore (pc' := 140) (l' := #[.val (.long p1), .second, .val (.long p2), .second, .val (.int p3), .val (.int p4), .val (.int p5), .val (.ref r_99), .val (.ref r_146), .val (.int (1 : Int32)), .val (.ref b161), .val (.ref r_146), .val (.ref r_146), .val (.ref r_146)]) X174 at_138 rfl rfl rfl ?_
        refine o_aload (pc' := 142) (v := (.ref r_146)) X174 at_140 rfl rfl rfl ?_
        refine o_aload (pc' := 144) (v := (.ref r_146)) X174 at_142 rfl rfl rfl ?_
        refine o_acmp (pc' := 147) (same := true) X174 at_144 rfl rfl (decide_eq_true rfl) (by decide) (by decide) ?_
        refine o_aload (pc' := 149) (v := (.ref r_146)) X174 at_147 rfl rfl rfl ?_
        refine o_aload (pc' := 151) (v := (.ref r_146)) X174 at_149 rfl rfl rfl ?_
        refine o_acmp (pc' := 154) (same := true) X174 at_151 rfl rfl (decide_eq_true rfl) (by decide) (by decide) ?_
        refine o_iconst (pc' := 155) (v := (1 : Int32)) X174 at_154 rfl (by decide) ?_
        refine o_goto (pc' := 159) X174 at_155 (by decide) (by decide) ?_
        exact o_nret (y := (1 : Int32)) (t := .boolean) X174 at_159 rfl (by decide) (by simp) (by decide) (by decide) rfl
set_option maxRecDepth 65536 in
set_option maxHeartbeats 40000000 in
theorem comes_1 {Post : Tables → Env → Array Value → State → Outcome → State → Prop} (hpost : ∀ tb e args s v u, (limb_1_1.after args s (.returned v) u = true ∧ limb_1_2.after args s (.returned v) u = true ∧ True) → FrameEnd s (.returned v) u (Jvm.fieldLocs frame_1_writes args s ++ Jvm.arrayLocs frame_1_arrays args s ++ Jvm.staticLocs frame_1_statics s) 24 128 → Post tb e args s (.returned v) u) :
    ArmFor flags0 classFile x code maxLocals ret World_1 tables_1 room_1 Calls_1 rest_1 Pre_1 Post := by
  intro l hfl _ _ p e ha hc hk s m args below hf hA hF happ hP
  obtain ⟨hcalls, hrest, hpre⟩ := hP
  obtain ⟨-, -, -, hnamed, -, -, -, hat⟩ := (Spec.applies_iff hf).mp happ
  obtain ⟨hg, hn⟩ := and_e (Cond.before_iff.mp (show (Jvm.Cond.and given_1 narrow_1).before args s = true from hpre))
  obtain ⟨g0, gt0⟩ := and_e hg
  obtain ⟨ga0, gt1⟩ := and_e gt0
  obtain ⟨ga1, gt2⟩ := and_e gt1
  obtain ⟨ga2, gt3⟩ := and_e gt2
  obtain ⟨ga3, gt4⟩ := and_e gt3
  obtain ⟨v0, v1, v2, v3, v4, rfl⟩ : ∃ v0 v1 v2 v3 v4 : Value, args = #[v0, v1, v2, v3, v4] := by
    have hs : args.size = 5 := by simpa [Cond.value, given_1] using g0
    obtain ⟨L⟩ := args
    match L, hs with
    | [v0, v1, v2, v3, v4], _ => exact ⟨v0, v1, v2, v3, v4, rfl⟩
  have hw := fun d (hd : d ∈ tables_1) => atoms_spec (ws := Jvm.Cond.code x code maxLocals ret :: tables_1) hat d (List.mem_cons_of_mem _ hd)
  have hfit : Fit s := fun {y c} hc i hi => by
    obtain ⟨ha, rfl⟩ := Array.getElem?_eq_some_iff.mp hc
    have q := List.all_eq_true.mp ((Array.all_eq_true_iff_forall_mem.mp hF) _ (Array.getElem_mem ha)) i (List.mem_range.mpr hi)
    simpa [Array.getElem?_eq_getElem hi] using q
  obtain ⟨hsets, hown0⟩ := atoms_of _ (rest_1_c_eq ▸ (show rest_1_c.before _ s = true from hrest))
  obtain ⟨i0, ei0⟩ := isL_v ga0
  obtain rfl : v0 = (.long i0) := Option.some.inj ei0
  obtain ⟨i1, ei1⟩ := isL_v ga1
  obtain rfl : v1 = (.long i1) := Option.some.inj ei1
  obtain ⟨i2, ei2⟩ := is_v ga2
  obtain rfl : v2 = (.int i2) := Option.some.inj ei2
  obtain ⟨i3, ei3⟩ := is_v ga3
  obtain rfl : v3 = (.int i3) := Option.some.inj ei3
  obtain ⟨i4, ei4⟩ := is_v gt4
  obtain rfl : v4 = (.int i4) := Option.some.inj ei4
  obtain ⟨zc, ezc⟩ := is_v (Cond.before_iff.mp (hsets _ (List.mem_of_getElem? (i := 1) rfl)))
  have S_zc : Sta s s.heap "java/lang/String" "COMPACT_STRINGS" "Z" (.int zc) := Sta.start ezc (Or.inl (hsets _ (List.mem_of_getElem? (i := 0) rfl)))
  have hzc : ¬ (zc = (0 : Int32)) := gotF (Cond.eq_ints ezc (Term.int_eval (0))) (not_v (Cond.before_iff.mp (hsets _ (List.mem_of_getElem? (i := 2) rfl))))
  obtain ⟨la, kla, lvs, S_la, A_la, C_la⟩ := own_lcache (args := #[.long i0, .long i1, .int i2, .int i3, .int i4]) hfit (w_70 hw) (hsets _ (List.mem_of_getElem? (i := 9) rfl)) (hsets _ (List.mem_of_getElem? (i := 11) rfl)) (hsets _ (List.mem_of_getElem? (i := 13) rfl)) (hsets _ (List.mem_of_getElem? (i := 14) rfl))
  obtain ⟨n, o, h1, h2, h3, _, L, rfl, ⟨N, -, rfl⟩, hq⟩ := rm_law l s _ hw tables_1 zc la kla lvs S_zc hzc S_la A_la C_la i0 i1 i2 i3 i4 s.heap s.heap.size (Old.start s) p e ha hc hk s m _ below hf ((Spec.applies_iff_loose hf).mp happ).1 ⟨rfl, State.Warmed39.refl s, rfl⟩ trivial
  refine ⟨n, _, h1, h2, h3, hpost _ _ _ _ _ _ ⟨Cond.after_iff.mpr rfl, Cond.after_iff.mpr (eq_i res_at (Term.int_eval (1)) rfl), trivial⟩ ⟨hq.1, hq.2.1, (hq.2.2.sift fun y hy => Or.inr (N y hy)).mono (by decide) (by decide)⟩⟩
theorem main_1_1 : Claimed_1_1 := comes_1 fun _ _ _ _ _ _ h hF => ⟨h.1, hF⟩
theorem main_1_2 : Claimed_1_2 := comes_1 fun _ _ _ _ _ _ h hF => ⟨h.2.1, hF⟩
end Jvm.Pilot.@@N@@
namespace Jvm.Pilot.@@N@@
open Jvm Jvm.ClassFile Sem Op Lib Jvm.Free Jvm.Stand Jvm.Pilot.@@N@@.Jvm.D
/-! MADE BY PROGRAM (witnessworld.py) out of the Statement's table words and the real class files: 24 classes; the members and pool entries that the words name. The judged class is class 1, her method 1. -/
namespace start1
open Jvm.ClassFile
def u (s : String) : CpInfo := .utf8 (stringToUtf16 s)
/-- a pool by its gaps: so many unusable entries, then the entry; so many at the end -/
def gap : Nat → List CpInfo → List CpInfo
  | 0, r => r
  | n + 1, r => .unusable :: gap n r
def poolList (es : List (Nat × CpInfo)) (last : Nat) : List CpInfo := es.foldr (fun e r => gap e.1 (e.2 :: r)) (gap last [])
def pool (es : List (Nat × CpInfo)) (last : Nat) : Array CpInfo := ⟨poolList es last⟩
def fileOf (pool : Array CpInfo) (this : Nat) (attrs : Array Attribute := #[]) (ms : Array MethodInfo := #[]) (fl : Nat := 33) (sup : Nat := 0) (ifs : Array Nat := #[]) (fds : Array FieldInfo := #[]) : ClassFile where
  minorVersion := 0
  majorVersion := 65
  constantPool := pool
  accessFlags := fl
  thisClass := this
  superClass := sup
  interfaces := ifs
  fields := fds
  methods := ms
  attributes := attrs
def plain (name : String) (sup : Option ClassId) : Class where
  name := name
  kind := .ordinary
  loader := none
  accessFlags := 33
  super := sup
  interfaces := #[]
  cf := none
  fields := #[]
  methods := #[]
  instanceTypes := #[]
  staticTypes := #[]
  resolved := #[]
  callSites := []
  init := .initialized
  statics := none
  mirror := none

def pool0 : Array CpInfo := pool [(5, u "<init>"), (0, u "()V"), (1, .class_ 10), (1, u "java/lang/Object")] 113

def k0c0 : Code := { maxStack := 0, maxLocals := 1, code := object_method_1_code, exceptionTable := #[], attributes := #[] }
def k0m0 : Method := { name := "<init>", desc := "()V", sig := { parameters := [], returnType := none }, accessFlags := 1, code := some k0c0 }
/-- java/lang/Object -/
def k0 : Class := { plain "java/lang/Object" none with
  accessFlags := 33
  interfaces := #[]
  cf := some (fileOf pool0 8 #[] #[{ accessFlags := 1, nameIndex := 5, descriptorIndex := 6, attributes := #[] }] 33 0 #[] #[])
  fields := #[]
  methods := #[k0m0]
  instanceTypes := #[]
  staticTypes := #[]
  resolved := Array.replicate 124 none
  statics := none }

def pool1 : Array CpInfo := pool [(2, .class_ 4), (0, .nameAndType 5 6), (0, u "java/lang/Object"), (0, u "<init>"), (0, u "()V"), (0, .methodref 8 9), (0, .class_ 10), (0, .nameAndType 11 12), (0, u "java/lang/Long"), (0, u "valueOf"), (0, u "(J)Ljava/lang/Long;"), (0, .class_ 14), (0, u "java/lang/String"), (0, .methodref 13 16), (0, .nameAndType 5 17), (0, u "([C)V"), (0, .methodref 13 19), (0, .nameAndType 11 20), (0, u "(C)Ljava/lang/String;"), (0, .class_ 22), (0, u "com/example/row_lease/rowlease/AssignedKey"), (0, .methodref 21 3), (0, .methodref 21 25), (0, .nameAndType 26 27), (0, u "assign"), (0, u "(Ljava/lang/Object;)V"), (0, .methodref 21 29), (0, .nameAndType 30 31), (0, u "get"), (0, u "()Ljava/lang/Object;"), (0, .class_ 33), (0, u "com/example/row_lease/rowlease/AssignedKeyGetPinLaw"), (2, u "law"), (0, u "(JJIII)Z")] 3

def k1m0 : Method := { name := "<init>", desc := "()V", sig := { parameters := [], returnType := none }, accessFlags := 1, code := none }
def k1c1 : Code := { maxStack := 7, maxLocals := 14, code := code, exceptionTable := #[], attributes := #[] }
def k1m1 : Method := { name := "law", desc := "(JJIII)Z", sig := { parameters := [.long, .long, .int, .int, .int], returnType := some .boolean }, accessFlags := 9, code := some k1c1 }
/-- com/example/row_lease/rowlease/AssignedKeyGetPinLaw -/
def k1 : Class := { plain "com/example/row_lease/rowlease/AssignedKeyGetPinLaw" (some 0) with
  accessFlags := 49
  interfaces := #[]
  cf := some (fileOf pool1 32 #[] #[{ accessFlags := 1, nameIndex := 5, descriptorIndex := 6, attributes := #[] }, { accessFlags := 9, nameIndex := 36, descriptorIndex := 37, attributes := #[] }] 49 2 #[] #[])
  fields := #[]
  methods := #[k1m0, k1m1]
  instanceTypes := #[]
  staticTypes := #[]
  resolved := Array.replicate 41 none
  statics := none }

def pool2 : Array CpInfo := pool [(1, .class_ 2), (0, u "java/io/Serializable"), (0, .class_ 4), (0, u "java/lang/Object")] 2

/-- java/io/Serializable -/
def k2 : Class := { plain "java/io/Serializable" (some 0) with
  accessFlags := 1537
  interfaces := #[]
  cf := some (fileOf pool2 1 #[] #[] 1537 3 #[] #[])
  fields := #[]
  methods := #[]
  instanceTypes := #[]
  staticTypes := #[]
  resolved := Array.replicate 7 none
  statics := none }

def pool3 : Array CpInfo := pool [(1, .class_ 2), (0, u "java/lang/Comparable"), (0, .class_ 4), (0, u "java/lang/Object")] 7

/-- java/lang/Comparable -/
def k3 : Class := { plain "java/lang/Comparable" (some 0) with
  accessFlags := 1537
  interfaces := #[]
  cf := some (fileOf pool3 1 #[] #[] 1537 3 #[] #[])
  fields := #[]
  methods := #[]
  instanceTypes := #[]
  staticTypes := #[]
  resolved := Array.replicate 12 none
  statics := none }

def pool4 : Array CpInfo := pool [(2, .class_ 4), (1, u "java/lang/CharSequence"), (42, .class_ 48), (0, u "java/lang/CharSequence$1CodePointIterator"), (10, .class_ 60), (0, u "java/lang/CharSequence$1CharIterator"), (5, .class_ 67), (0, u "java/lang/Object")] 63

/-- java/lang/CharSequence -/
def k4 : Class := { plain "java/lang/CharSequence" (some 0) with
  accessFlags := 1537
  interfaces := #[]
  cf := some (fileOf pool4 2 #[.nestMembers #[47, 59]] #[] 1537 66 #[] #[])
  fields := #[]
  methods := #[]
  instanceTypes := #[]
  staticTypes := #[]
  resolved := Array.replicate 131 none
  statics := none }

def pool5 : Array CpInfo := pool [(1, .class_ 2), (0, u "java/lang/constant/Constable"), (0, .class_ 4), (0, u "java/lang/Object")] 6

/-- java/lang/constant/Constable -/
def k5 : Class := { plain "java/lang/constant/Constable" (some 0) with
  accessFlags := 1537
  interfaces := #[]
  cf := some (fileOf pool5 1 #[] #[] 1537 3 #[] #[])
  fields := #[]
  methods := #[]
  instanceTypes := #[]
  staticTypes := #[]
  resolved := Array.replicate 11 none
  statics := none }

def pool6 : Array CpInfo := pool [(1, .class_ 2), (0, u "java/lang/constant/ConstantDesc"), (0, .class_ 4), (0, u "java/lang/Object")] 32

/-- java/lang/constant/ConstantDesc -/
def k6 : Class := { plain "java/lang/constant/ConstantDesc" (some 0) with
  accessFlags := 1537
  interfaces := #[]
  cf := some (fileOf pool6 1 #[] #[] 1537 3 #[] #[])
  fields := #[]
  methods := #[]
  instanceTypes := #[]
  staticTypes := #[]
  resolved := Array.replicate 37 none
  statics := none }

def pool7 : Array CpInfo := pool [(1, .methodref 2 3), (0, .class_ 4), (0, .nameAndType 5 6), (0, u "java/lang/Object"), (0, u "<init>"), (0, u "()V"), (2, .fieldref 10 11), (0, .class_ 12), (0, .nameAndType 13 14), (0, u "java/lang/String"), (0, u "value"), (0, u "[B"), (0, .fieldref 10 16), (0, .nameAndType 17 18), (0, u "coder"), (0, u "B"), (2, u "hash"), (0, u "I"), (2, u "hashIsZero"), (0, u "Z"), (0, .methodref 10 28), (0, .nameAndType 5 29), (0, u "([CIILjava/lang/Void;)V"), (8, .fieldref 10 39), (0, .nameAndType 40 26), (0, u "COMPACT_STRINGS"), (1, .class_ 44), (1, u "java/lang/StringUTF16"), (0, u "compress"), (1, .methodref 42 48), (0, .nameAndType 49 50), (0, u "coderFromArrayLen"), (0, u "([BI)B"), (2, u "toBytes"), (53, .class_ 109), (1, u "java/lang/StringLatin1"), (67, .methodref 42 178), (0, .nameAndType 45 179), (0, u "([CII)[B"), (29, .methodref 10 210), (0, .nameAndType 5 211), (0, u "([BB)V"), (157, u "(C)Z"), (205, .class_ 576), (0, u "java/lang/CharSequence"), (22, u "CASE_INSENSITIVE_ORDER"), (0, u "Ljava/util/Comparator;"), (181, u "valueOf"), (0, u "(C)Ljava/lang/String;"), (226, u "([C)V"), (4, .methodref 107 1016), (0, .nameAndType 1017 369), (0, u "canEncode"), (0, .methodref 107 1019), (0, .nameAndType 53 1020), (0, u "(C)[B"), (80, u "serialPersistentFields"), (0, u "[Ljava/io/ObjectStreamField;"), (0, .class_ 1104), (0, u "java/lang/String$CaseInsensitiveComparator"), (1, .class_ 1107), (0, u "java/io/Serializable"), (0, .class_ 1109), (0, u "java/lang/Comparable"), (0, .class_ 1111), (0, u "java/lang/constant/Constable"), (0, .class_ 1113), (0, u "java/lang/constant/ConstantDesc"), (2, u "serialVersionUID"), (0, u "J"), (3, u "REPL"), (0, u "C"), (2, u "LATIN1"), (1, u "UTF16")] 323

def k7m0 : Method := { name := "<init>", desc := "()V", sig := { parameters := [], returnType := none }, accessFlags := 1, code := none }
def k7c1 : Code := { maxStack := 5, maxLocals := 2, code := jdk_42_method_3_code, exceptionTable := #[], attributes := #[] }
def k7m1 : Method := { name := "<init>", desc := "([C)V", sig := { parameters := [(.array .char)], returnType := none }, accessFlags := 1, code := some k7c1 }
def k7c2 : Code := { maxStack := 4, maxLocals := 1, code := jdk_42_method_139_code, exceptionTable := #[], attributes := #[] }
def k7m2 : Method := { name := "valueOf", desc := "(C)Ljava/lang/String;", sig := { parameters := [.char], returnType := some (.object "java/lang/String") }, accessFlags := 9, code := some k7c2 }
def k7c3 : Code := { maxStack := 4, maxLocals := 6, code := jdk_42_method_149_code, exceptionTable := #[], attributes := #[] }
def k7m3 : Method := { name := "<init>", desc := "([CIILjava/lang/Void;)V", sig := { parameters := [(.array .char), .int, .int, (.object "java/lang/Void")], returnType := none }, accessFlags := 2, code := some k7c3 }
def k7c4 : Code := { maxStack := 2, maxLocals := 3, code := jdk_42_method_151_code, exceptionTable := #[], attributes := #[] }
def k7m4 : Method := { name := "<init>", desc := "([BB)V", sig := { parameters := [(.array .byte), .byte], returnType := none }, accessFlags := 0, code := some k7c4 }
/-- java/lang/String -/
def k7 : Class := { plain "java/lang/String" (some 0) with
  accessFlags := 49
  interfaces := #[2, 3, 4, 5, 6]
  cf := some (fileOf pool7 10 #[.nestMembers #[1103]] #[{ accessFlags := 1, nameIndex := 5, descriptorIndex := 6, attributes := #[] }, { accessFlags := 1, nameIndex := 5, descriptorIndex := 1010, attributes := #[] }, { accessFlags := 9, nameIndex := 782, descriptorIndex := 783, attributes := #[] }, { accessFlags := 2, nameIndex := 5, descriptorIndex := 29, attributes := #[] }, { accessFlags := 0, nameIndex := 5, descriptorIndex := 211, attributes := #[] }] 49 2 #[1106, 1108, 575, 1110, 1112] #[{ accessFlags := 18, nameIndex := 13, descriptorIndex := 14, attributes := #[] }, { accessFlags := 18, nameIndex := 17, descriptorIndex := 18, attributes := #[] }, { accessFlags := 2, nameIndex := 21, descriptorIndex := 22, attributes := #[] }, { accessFlags := 2, nameIndex := 25, descriptorIndex := 26, attributes := #[] }, { accessFlags := 26, nameIndex := 1116, descriptorIndex := 1117, attributes := #[] }, { accessFlags := 24, nameIndex := 40, descriptorIndex := 26, attributes := #[] }, { accessFlags := 26, nameIndex := 1101, descriptorIndex := 1102, attributes := #[] }, { accessFlags := 26, nameIndex := 1121, descriptorIndex := 1122, attributes := #[] }, { accessFlags := 25, nameIndex := 599, descriptorIndex := 600, attributes := #[] }, { accessFlags := 24, nameIndex := 1125, descriptorIndex := 18, attributes := #[] }, { accessFlags := 24, nameIndex := 1127, descriptorIndex := 18, attributes := #[] }])
  fields := #[{ name := "value", type := (.array .byte), accessFlags := 18, slot := 0, constantValue := 0 }, { name := "coder", type := .byte, accessFlags := 18, slot := 1, constantValue := 0 }, { name := "hash", type := .int, accessFlags := 2, slot := 2, constantValue := 0 }, { name := "hashIsZero", type := .boolean, accessFlags := 2, slot := 3, constantValue := 0 }, { name := "serialVersionUID", type := .long, accessFlags := 26, slot := 0, constantValue := 0 }, { name := "COMPACT_STRINGS", type := .boolean, accessFlags := 24, slot := 1, constantValue := 0 }, { name := "serialPersistentFields", type := (.array (.object "java/io/ObjectStreamField")), accessFlags := 26, slot := 2, constantValue := 0 }, { name := "REPL", type := .char, accessFlags := 26, slot := 3, constantValue := 0 }, { name := "CASE_INSENSITIVE_ORDER", type := (.object "java/util/Comparator"), accessFlags := 25, slot := 4, constantValue := 0 }, { name := "LATIN1", type := .byte, accessFlags := 24, slot := 5, constantValue := 0 }, { name := "UTF16", type := .byte, accessFlags := 24, slot := 6, constantValue := 0 }]
  methods := #[k7m0, k7m1, k7m2, k7m3, k7m4]
  instanceTypes := #[(.array .byte), .byte, .int, .boolean]
  staticTypes := #[.long, .boolean, (.array (.object "java/io/ObjectStreamField")), .char, (.object "java/util/Comparator"), .byte, .byte]
  resolved := Array.replicate 1451 none
  statics := some 0 }

def pool8 : Array CpInfo := pool [(6, .class_ 8), (1, u "java/lang/Object"), (0, u "<init>"), (0, u "()V"), (1, .class_ 14), (1, u "java/lang/StringUTF16"), (31, u "$assertionsDisabled"), (0, u "Z"), (13, u "HI_BYTE_SHIFT"), (0, u "I"), (2, u "LO_BYTE_SHIFT"), (49, .methodref 12 116), (0, .nameAndType 117 118), (0, u "compress"), (0, u "([CI[BII)I"), (3, u "([CII)[B"), (138, u "coderFromArrayLen"), (0, u "([BI)B"), (106, .class_ 371), (1, u "java/lang/StringUTF16$LinesSpliterator"), (58, u "MAX_LENGTH"), (196, .class_ 628), (0, u "java/lang/StringUTF16$CodePointsSpliterator"), (0, .class_ 630), (0, u "java/lang/StringUTF16$CharsSpliterator")] 4

def k8m0 : Method := { name := "<init>", desc := "()V", sig := { parameters := [], returnType := none }, accessFlags := 0, code := none }
def k8c1 : Code := { maxStack := 2, maxLocals := 2, code := jdk_52_method_15_code, exceptionTable := #[], attributes := #[] }
def k8m1 : Method := { name := "coderFromArrayLen", desc := "([BI)B", sig := { parameters := [(.array .byte), .int], returnType := some .byte }, accessFlags := 8, code := some k8c1 }
def k8c2 : Code := { maxStack := 5, maxLocals := 6, code := jdk_52_method_16_code, exceptionTable := #[], attributes := #[] }
def k8m2 : Method := { name := "compress", desc := "([CII)[B", sig := { parameters := [(.array .char), .int, .int], returnType := some (.array .byte) }, accessFlags := 9, code := some k8c2 }
def k8c3 : Code := { maxStack := 3, maxLocals := 7, code := jdk_52_method_21_code, exceptionTable := #[], attributes := #[] }
def k8m3 : Method := { name := "compress", desc := "([CI[BII)I", sig := { parameters := [(.array .char), .int, (.array .byte), .int, .int], returnType := some .int }, accessFlags := 9, code := some k8c3 }
/-- java/lang/StringUTF16 -/
def k8 : Class := { plain "java/lang/StringUTF16" (some 0) with
  accessFlags := 48
  interfaces := #[]
  cf := some (fileOf pool8 12 #[.nestMembers #[627, 629, 369]] #[{ accessFlags := 0, nameIndex := 9, descriptorIndex := 10, attributes := #[] }, { accessFlags := 8, nameIndex := 261, descriptorIndex := 262, attributes := #[] }, { accessFlags := 9, nameIndex := 117, descriptorIndex := 122, attributes := #[] }, { accessFlags := 9, nameIndex := 117, descriptorIndex := 118, attributes := #[] }] 48 6 #[] #[{ accessFlags := 26, nameIndex := 61, descriptorIndex := 62, attributes := #[] }, { accessFlags := 26, nameIndex := 65, descriptorIndex := 62, attributes := #[] }, { accessFlags := 24, nameIndex := 430, descriptorIndex := 62, attributes := #[] }, { accessFlags := 4120, nameIndex := 46, descriptorIndex := 47, attributes := #[] }])
  fields := #[{ name := "HI_BYTE_SHIFT", type := .int, accessFlags := 26, slot := 0, constantValue := 0 }, { name := "LO_BYTE_SHIFT", type := .int, accessFlags := 26, slot := 1, constantValue := 0 }, { name := "MAX_LENGTH", type := .int, accessFlags := 24, slot := 2, constantValue := 0 }, { name := "$assertionsDisabled", type := .boolean, accessFlags := 4120, slot := 3, constantValue := 0 }]
  methods := #[k8m0, k8m1, k8m2, k8m3]
  instanceTypes := #[]
  staticTypes := #[.int, .int, .int, .boolean]
  resolved := Array.replicate 635 none
  statics := none }

def pool9 : Array CpInfo := pool [(4, .class_ 6), (1, u "java/lang/Object"), (0, u "<init>"), (0, u "()V"), (5, .class_ 16), (1, u "java/lang/StringLatin1"), (73, u "canEncode"), (14, u "(C)Z"), (15, u "$assertionsDisabled"), (0, u "Z"), (98, .class_ 223), (1, u "java/lang/StringLatin1$LinesSpliterator"), (156, u "toBytes"), (1, u "(C)[B"), (7, .class_ 391), (0, u "java/lang/StringLatin1$CharsSpliterator")] 3

def k9m0 : Method := { name := "<init>", desc := "()V", sig := { parameters := [], returnType := none }, accessFlags := 0, code := none }
def k9c1 : Code := { maxStack := 2, maxLocals := 1, code := jdk_43_method_3_code, exceptionTable := #[], attributes := #[] }
def k9m1 : Method := { name := "canEncode", desc := "(C)Z", sig := { parameters := [.char], returnType := some .boolean }, accessFlags := 9, code := some k9c1 }
def k9c2 : Code := { maxStack := 4, maxLocals := 1, code := jdk_43_method_46_code, exceptionTable := #[], attributes := #[] }
def k9m2 : Method := { name := "toBytes", desc := "(C)[B", sig := { parameters := [.char], returnType := some (.array .byte) }, accessFlags := 9, code := some k9c2 }
/-- java/lang/StringLatin1 -/
def k9 : Class := { plain "java/lang/StringLatin1" (some 0) with
  accessFlags := 48
  interfaces := #[]
  cf := some (fileOf pool9 14 #[.nestMembers #[390, 221]] #[{ accessFlags := 0, nameIndex := 7, descriptorIndex := 8, attributes := #[] }, { accessFlags := 9, nameIndex := 90, descriptorIndex := 105, attributes := #[] }, { accessFlags := 9, nameIndex := 380, descriptorIndex := 382, attributes := #[] }] 48 4 #[] #[{ accessFlags := 4120, nameIndex := 121, descriptorIndex := 122, attributes := #[] }])
  fields := #[{ name := "$assertionsDisabled", type := .boolean, accessFlags := 4120, slot := 0, constantValue := 0 }]
  methods := #[k9m0, k9m1, k9m2]
  instanceTypes := #[]
  staticTypes := #[.boolean]
  resolved := Array.replicate 395 none
  statics := none }

def pool10 : Array CpInfo := pool [(1, .methodref 2 3), (0, .class_ 4), (0, .nameAndType 5 6), (0, u "java/lang/Object"), (0, u "<init>"), (0, u "()V"), (0, .fieldref 8 9), (0, .class_ 10), (0, .nameAndType 11 12), (0, u "com/example/row_lease/rowlease/AssignedKey"), (0, u "key"), (0, u "Ljava/lang/Object;"), (9, u "get"), (0, u "()Ljava/lang/Object;"), (1, u "assign"), (0, u "(Ljava/lang/Object;)V")] 2

def k10c0 : Code := { maxStack := 1, maxLocals := 1, code := prog_1_method_1_code, exceptionTable := #[], attributes := #[] }
def k10m0 : Method := { name := "<init>", desc := "()V", sig := { parameters := [], returnType := none }, accessFlags := 0, code := some k10c0 }
def k10c1 : Code := { maxStack := 3, maxLocals := 1, code := prog_1_method_2_code, exceptionTable := #[], attributes := #[] }
def k10m1 : Method := { name := "get", desc := "()Ljava/lang/Object;", sig := { parameters := [], returnType := some (.object "java/lang/Object") }, accessFlags := 1, code := some k10c1 }
def k10c2 : Code := { maxStack := 2, maxLocals := 2, code := prog_1_method_3_code, exceptionTable := #[], attributes := #[] }
def k10m2 : Method := { name := "assign", desc := "(Ljava/lang/Object;)V", sig := { parameters := [(.object "java/lang/Object")], returnType := none }, accessFlags := 0, code := some k10c2 }
/-- com/example/row_lease/rowlease/AssignedKey -/
def k10 : Class := { plain "com/example/row_lease/rowlease/AssignedKey" (some 0) with
  accessFlags := 33
  interfaces := #[]
  cf := some (fileOf pool10 8 #[] #[{ accessFlags := 0, nameIndex := 5, descriptorIndex := 6, attributes := #[] }, { accessFlags := 1, nameIndex := 22, descriptorIndex := 23, attributes := #[] }, { accessFlags := 0, nameIndex := 25, descriptorIndex := 26, attributes := #[] }] 33 2 #[] #[{ accessFlags := 2, nameIndex := 11, descriptorIndex := 12, attributes := #[] }])
  fields := #[{ name := "key", type := (.object "java/lang/Object"), accessFlags := 2, slot := 0, constantValue := 0 }]
  methods := #[k10m0, k10m1, k10m2]
  instanceTypes := #[(.object "java/lang/Object")]
  staticTypes := #[]
  resolved := Array.replicate 29 none
  statics := none }

def pool11 : Array CpInfo := pool [(1, .methodref 2 3), (0, .class_ 4), (0, .nameAndType 5 6), (0, u "java/lang/Object"), (0, u "<init>"), (0, u "()V"), (1, .class_ 10), (1, u "java/lang/Number"), (2, .class_ 14), (0, u "java/io/Serializable"), (0, u "serialVersionUID"), (0, u "J")] 20

def k11c0 : Code := { maxStack := 1, maxLocals := 1, code := jdk_18_method_1_code, exceptionTable := #[], attributes := #[] }
def k11m0 : Method := { name := "<init>", desc := "()V", sig := { parameters := [], returnType := none }, accessFlags := 1, code := some k11c0 }
/-- java/lang/Number -/
def k11 : Class := { plain "java/lang/Number" (some 0) with
  accessFlags := 1057
  interfaces := #[2]
  cf := some (fileOf pool11 8 #[] #[{ accessFlags := 1, nameIndex := 5, descriptorIndex := 6, attributes := #[] }] 1057 2 #[13] #[{ accessFlags := 26, nameIndex := 15, descriptorIndex := 16, attributes := #[] }])
  fields := #[{ name := "serialVersionUID", type := .long, accessFlags := 26, slot := 0, constantValue := 0 }]
  methods := #[k11m0]
  instanceTypes := #[]
  staticTypes := #[.long]
  resolved := Array.replicate 37 none
  statics := none }

def pool12 : Array CpInfo := pool [(1, .class_ 2), (0, u "java/lang/Long"), (55, .nameAndType 59 60), (0, u "<init>"), (0, u "()V"), (24, u "valueOf"), (143, u "(J)Ljava/lang/Long;"), (0, .long 18446744073709551488), (1, .long 127), (1, .fieldref 235 236), (0, .class_ 237), (0, .nameAndType 238 239), (0, u "java/lang/Long$LongCache"), (0, u "cache"), (0, u "[Ljava/lang/Long;"), (0, .methodref 1 241), (0, .nameAndType 59 242), (0, u "(J)V"), (27, .methodref 271 58), (0, .class_ 272), (0, u "java/lang/Number"), (0, .fieldref 1 274), (0, .nameAndType 275 276), (0, u "value"), (0, u "J"), (84, u "TYPE"), (0, u "Ljava/lang/Class;"), (0, .class_ 364), (0, u "java/lang/Comparable"), (0, .class_ 366), (0, u "java/lang/constant/Constable"), (0, .class_ 368), (0, u "java/lang/constant/ConstantDesc"), (0, u "MIN_VALUE"), (1, u "MAX_VALUE"), (4, u "SIZE"), (0, u "I"), (1, u "BYTES"), (1, u "serialVersionUID")] 142

def k12c0 : Code := { maxStack := 4, maxLocals := 3, code := jdk_35_method_24_code, exceptionTable := #[], attributes := #[] }
def k12m0 : Method := { name := "valueOf", desc := "(J)Ljava/lang/Long;", sig := { parameters := [.long], returnType := some (.object "java/lang/Long") }, accessFlags := 9, code := some k12c0 }
def k12c1 : Code := { maxStack := 3, maxLocals := 3, code := jdk_35_method_26_code, exceptionTable := #[], attributes := #[] }
def k12m1 : Method := { name := "<init>", desc := "(J)V", sig := { parameters := [.long], returnType := none }, accessFlags := 1, code := some k12c1 }
/-- java/lang/Long -/
def k12 : Class := { plain "java/lang/Long" (some 11) with
  accessFlags := 49
  interfaces := #[3, 5, 6]
  cf := some (fileOf pool12 1 #[.nestMembers #[235]] #[{ accessFlags := 9, nameIndex := 85, descriptorIndex := 229, attributes := #[] }, { accessFlags := 1, nameIndex := 59, descriptorIndex := 242, attributes := #[] }] 49 271 #[363, 365, 367] #[{ accessFlags := 25, nameIndex := 369, descriptorIndex := 276, attributes := #[] }, { accessFlags := 25, nameIndex := 371, descriptorIndex := 276, attributes := #[] }, { accessFlags := 25, nameIndex := 361, descriptorIndex := 362, attributes := #[] }, { accessFlags := 18, nameIndex := 275, descriptorIndex := 276, attributes := #[] }, { accessFlags := 25, nameIndex := 376, descriptorIndex := 377, attributes := #[] }, { accessFlags := 25, nameIndex := 379, descriptorIndex := 377, attributes := #[] }, { accessFlags := 26, nameIndex := 381, descriptorIndex := 276, attributes := #[] }])
  fields := #[{ name := "MIN_VALUE", type := .long, accessFlags := 25, slot := 0, constantValue := 0 }, { name := "MAX_VALUE", type := .long, accessFlags := 25, slot := 1, constantValue := 0 }, { name := "TYPE", type := (.object "java/lang/Class"), accessFlags := 25, slot := 2, constantValue := 0 }, { name := "value", type := .long, accessFlags := 18, slot := 0, constantValue := 0 }, { name := "SIZE", type := .int, accessFlags := 25, slot := 3, constantValue := 0 }, { name := "BYTES", type := .int, accessFlags := 25, slot := 4, constantValue := 0 }, { name := "serialVersionUID", type := .long, accessFlags := 26, slot := 5, constantValue := 0 }]
  methods := #[k12m0, k12m1]
  instanceTypes := #[.long]
  staticTypes := #[.long, .long, (.object "java/lang/Class"), .int, .int, .long]
  resolved := Array.replicate 524 none
  statics := none }

def pool13 : Array CpInfo := pool [(2, .class_ 4), (1, u "java/lang/Object"), (0, u "<init>"), (0, u "()V"), (0, .class_ 8), (0, u "java/lang/Long"), (7, .class_ 18), (1, u "java/lang/Long$LongCache"), (0, u "$assertionsDisabled"), (0, u "Z"), (8, u "archivedCache"), (0, u "[Ljava/lang/Long;"), (7, u "cache")] 24

def k13m0 : Method := { name := "<init>", desc := "()V", sig := { parameters := [], returnType := none }, accessFlags := 2, code := none }
/-- java/lang/Long$LongCache -/
def k13 : Class := { plain "java/lang/Long$LongCache" (some 0) with
  accessFlags := 48
  interfaces := #[]
  cf := some (fileOf pool13 16 #[.nestHost 7] #[{ accessFlags := 2, nameIndex := 5, descriptorIndex := 6, attributes := #[] }] 48 2 #[] #[{ accessFlags := 24, nameIndex := 38, descriptorIndex := 30, attributes := #[] }, { accessFlags := 8, nameIndex := 29, descriptorIndex := 30, attributes := #[] }, { accessFlags := 4120, nameIndex := 19, descriptorIndex := 20, attributes := #[] }])
  fields := #[{ name := "cache", type := (.array (.object "java/lang/Long")), accessFlags := 24, slot := 0, constantValue := 0 }, { name := "archivedCache", type := (.array (.object "java/lang/Long")), accessFlags := 8, slot := 1, constantValue := 0 }, { name := "$assertionsDisabled", type := .boolean, accessFlags := 4120, slot := 2, constantValue := 0 }]
  methods := #[k13m0]
  instanceTypes := #[]
  staticTypes := #[(.array (.object "java/lang/Long")), (.array (.object "java/lang/Long")), .boolean]
  resolved := Array.replicate 63 none
  statics := some 1 }

def pool14 : Array CpInfo := pool [(2, .class_ 4), (1, u "java/lang/Object"), (0, u "<init>"), (0, u "()V"), (17, .class_ 26), (1, u "jdk/internal/util/Preconditions"), (28, .class_ 56), (0, u "jdk/internal/util/Preconditions$4"), (57, .class_ 115), (0, u "jdk/internal/util/Preconditions$1"), (7, u "SIOOBE_FORMATTER"), (0, u "Ljava/util/function/BiFunction;"), (0, .class_ 126), (0, u "jdk/internal/util/Preconditions$2"), (3, u "AIOOBE_FORMATTER"), (0, .class_ 132), (0, u "jdk/internal/util/Preconditions$3"), (3, u "IOOBE_FORMATTER")] 57

def k14m0 : Method := { name := "<init>", desc := "()V", sig := { parameters := [], returnType := none }, accessFlags := 1, code := none }
/-- jdk/internal/util/Preconditions -/
def k14 : Class := { plain "jdk/internal/util/Preconditions" (some 0) with
  accessFlags := 33
  interfaces := #[]
  cf := some (fileOf pool14 24 #[.nestMembers #[55, 131, 125, 114]] #[{ accessFlags := 1, nameIndex := 5, descriptorIndex := 6, attributes := #[] }] 33 2 #[] #[{ accessFlags := 25, nameIndex := 123, descriptorIndex := 124, attributes := #[] }, { accessFlags := 25, nameIndex := 130, descriptorIndex := 124, attributes := #[] }, { accessFlags := 25, nameIndex := 136, descriptorIndex := 124, attributes := #[] }])
  fields := #[{ name := "SIOOBE_FORMATTER", type := (.object "java/util/function/BiFunction"), accessFlags := 25, slot := 0, constantValue := 0 }, { name := "AIOOBE_FORMATTER", type := (.object "java/util/function/BiFunction"), accessFlags := 25, slot := 1, constantValue := 0 }, { name := "IOOBE_FORMATTER", type := (.object "java/util/function/BiFunction"), accessFlags := 25, slot := 2, constantValue := 0 }]
  methods := #[k14m0]
  instanceTypes := #[]
  staticTypes := #[(.object "java/util/function/BiFunction"), (.object "java/util/function/BiFunction"), (.object "java/util/function/BiFunction")]
  resolved := Array.replicate 194 none
  statics := some 2 }

def pool15 : Array CpInfo := pool [(9, u "<init>"), (6, .class_ 18), (1, u "java/lang/Object"), (0, u "()V"), (1, .class_ 23), (1, u "jdk/internal/util/ArraysSupport"), (0, u "LOG2_ARRAY_LONG_INDEX_SCALE"), (0, u "I"), (2, u "U"), (0, u "Ljdk/internal/misc/Unsafe;"), (8, u "BIG_ENDIAN"), (0, u "Z"), (8, u "LOG2_BYTE_BIT_SIZE"), (4, u "LOG2_ARRAY_INT_INDEX_SCALE"), (54, u "JLA"), (0, u "Ljdk/internal/access/JavaLangAccess;"), (11, u "LOG2_ARRAY_BOOLEAN_INDEX_SCALE"), (9, u "LOG2_ARRAY_BYTE_INDEX_SCALE"), (5, u "LOG2_ARRAY_CHAR_INDEX_SCALE"), (5, u "LOG2_ARRAY_SHORT_INDEX_SCALE"), (18, u "LOG2_ARRAY_FLOAT_INDEX_SCALE"), (24, u "LOG2_ARRAY_DOUBLE_INDEX_SCALE"), (89, u "T_BOOLEAN"), (2, u "T_CHAR"), (1, u "T_FLOAT"), (1, u "T_DOUBLE"), (1, u "T_BYTE"), (1, u "T_SHORT"), (1, u "T_INT"), (1, u "T_LONG"), (1, u "SOFT_MAX_ARRAY_LENGTH")] 83

def k15m0 : Method := { name := "<init>", desc := "()V", sig := { parameters := [], returnType := none }, accessFlags := 2, code := none }
/-- jdk/internal/util/ArraysSupport -/
def k15 : Class := { plain "jdk/internal/util/ArraysSupport" (some 0) with
  accessFlags := 33
  interfaces := #[]
  cf := some (fileOf pool15 21 #[] #[{ accessFlags := 2, nameIndex := 9, descriptorIndex := 19, attributes := #[] }] 33 16 #[] #[{ accessFlags := 24, nameIndex := 28, descriptorIndex := 29, attributes := #[] }, { accessFlags := 26, nameIndex := 38, descriptorIndex := 39, attributes := #[] }, { accessFlags := 25, nameIndex := 121, descriptorIndex := 25, attributes := #[] }, { accessFlags := 25, nameIndex := 131, descriptorIndex := 25, attributes := #[] }, { accessFlags := 25, nameIndex := 137, descriptorIndex := 25, attributes := #[] }, { accessFlags := 25, nameIndex := 143, descriptorIndex := 25, attributes := #[] }, { accessFlags := 25, nameIndex := 53, descriptorIndex := 25, attributes := #[] }, { accessFlags := 25, nameIndex := 24, descriptorIndex := 25, attributes := #[] }, { accessFlags := 25, nameIndex := 162, descriptorIndex := 25, attributes := #[] }, { accessFlags := 25, nameIndex := 187, descriptorIndex := 25, attributes := #[] }, { accessFlags := 26, nameIndex := 48, descriptorIndex := 25, attributes := #[] }, { accessFlags := 25, nameIndex := 277, descriptorIndex := 25, attributes := #[] }, { accessFlags := 25, nameIndex := 280, descriptorIndex := 25, attributes := #[] }, { accessFlags := 25, nameIndex := 282, descriptorIndex := 25, attributes := #[] }, { accessFlags := 25, nameIndex := 284, descriptorIndex := 25, attributes := #[] }, { accessFlags := 25, nameIndex := 286, descriptorIndex := 25, attributes := #[] }, { accessFlags := 25, nameIndex := 288, descriptorIndex := 25, attributes := #[] }, { accessFlags := 25, nameIndex := 290, descriptorIndex := 25, attributes := #[] }, { accessFlags := 25, nameIndex := 292, descriptorIndex := 25, attributes := #[] }, { accessFlags := 26, nameIndex := 108, descriptorIndex := 109, attributes := #[] }, { accessFlags := 25, nameIndex := 294, descriptorIndex := 25, attributes := #[] }])
  fields := #[{ name := "U", type := (.object "jdk/internal/misc/Unsafe"), accessFlags := 24, slot := 0, constantValue := 0 }, { name := "BIG_ENDIAN", type := .boolean, accessFlags := 26, slot := 1, constantValue := 0 }, { name := "LOG2_ARRAY_BOOLEAN_INDEX_SCALE", type := .int, accessFlags := 25, slot := 2, constantValue := 0 }, { name := "LOG2_ARRAY_BYTE_INDEX_SCALE", type := .int, accessFlags := 25, slot := 3, constantValue := 0 }, { name := "LOG2_ARRAY_CHAR_INDEX_SCALE", type := .int, accessFlags := 25, slot := 4, constantValue := 0 }, { name := "LOG2_ARRAY_SHORT_INDEX_SCALE", type := .int, accessFlags := 25, slot := 5, constantValue := 0 }, { name := "LOG2_ARRAY_INT_INDEX_SCALE", type := .int, accessFlags := 25, slot := 6, constantValue := 0 }, { name := "LOG2_ARRAY_LONG_INDEX_SCALE", type := .int, accessFlags := 25, slot := 7, constantValue := 0 }, { name := "LOG2_ARRAY_FLOAT_INDEX_SCALE", type := .int, accessFlags := 25, slot := 8, constantValue := 0 }, { name := "LOG2_ARRAY_DOUBLE_INDEX_SCALE", type := .int, accessFlags := 25, slot := 9, constantValue := 0 }, { name := "LOG2_BYTE_BIT_SIZE", type := .int, accessFlags := 26, slot := 10, constantValue := 0 }, { name := "T_BOOLEAN", type := .int, accessFlags := 25, slot := 11, constantValue := 0 }, { name := "T_CHAR", type := .int, accessFlags := 25, slot := 12, constantValue := 0 }, { name := "T_FLOAT", type := .int, accessFlags := 25, slot := 13, constantValue := 0 }, { name := "T_DOUBLE", type := .int, accessFlags := 25, slot := 14, constantValue := 0 }, { name := "T_BYTE", type := .int, accessFlags := 25, slot := 15, constantValue := 0 }, { name := "T_SHORT", type := .int, accessFlags := 25, slot := 16, constantValue := 0 }, { name := "T_INT", type := .int, accessFlags := 25, slot := 17, constantValue := 0 }, { name := "T_LONG", type := .int, accessFlags := 25, slot := 18, constantValue := 0 }, { name := "JLA", type := (.object "jdk/internal/access/JavaLangAccess"), accessFlags := 26, slot := 19, constantValue := 0 }, { name := "SOFT_MAX_ARRAY_LENGTH", type := .int, accessFlags := 25, slot := 20, constantValue := 0 }]
  methods := #[k15m0]
  instanceTypes := #[]
  staticTypes := #[(.object "jdk/internal/misc/Unsafe"), .boolean, .int, .int, .int, .int, .int, .int, .int, .int, .int, .int, .int, .int, .int, .int, .int, .int, .int, (.object "jdk/internal/access/JavaLangAccess"), .int]
  resolved := Array.replicate 378 none
  statics := none }

def pool16 : Array CpInfo := pool [(1, u "java/lang/Cloneable"), (0, .class_ 1), (0, u "java/lang/Object"), (0, .class_ 3)] 3

/-- java/lang/Cloneable -/
def k16 : Class := { plain "java/lang/Cloneable" (some 0) with
  accessFlags := 1537
  interfaces := #[]
  cf := some (fileOf pool16 2 #[] #[] 1537 4 #[] #[])
  fields := #[]
  methods := #[]
  instanceTypes := #[]
  staticTypes := #[]
  resolved := Array.replicate 8 none
  statics := none }

/-- the primitive byte -/
def k17 : Class := { plain "byte" none with kind := .primitive 'B', accessFlags := 0x411 }
/-- [B -/
def k18 : Class := { plain "[B" (some 0) with kind := .array 17 .byte, interfaces := #[16, 2], accessFlags := 1041 }

/-- the primitive char -/
def k19 : Class := { plain "char" none with kind := .primitive 'C', accessFlags := 0x411 }
/-- [C -/
def k20 : Class := { plain "[C" (some 0) with kind := .array 19 .char, interfaces := #[16, 2], accessFlags := 1041 }

/-- the primitive int -/
def k21 : Class := { plain "int" none with kind := .primitive 'I', accessFlags := 0x411 }
/-- [I -/
def k22 : Class := { plain "[I" (some 0) with kind := .array 21 .int, interfaces := #[16, 2], accessFlags := 1041 }

/-- [Ljava/lang/Long; -/
def k23 : Class := { plain "[Ljava/lang/Long;" (some 0) with kind := .array 12 (.object "java/lang/Long"), interfaces := #[16, 2], accessFlags := 1041 }

def heap : Heap := #[{ cls := 7, slots := #[.long 0, .int 1, .null, .int 0, .null, .int 0, .int 0], vm := .statics 7 },
  { cls := 13, slots := #[.ref 3, .null, .int 0], vm := .statics 13 },
  { cls := 14, slots := #[.null, .null, .null], vm := .statics 14 },
  { cls := 23, slots := #[.ref 4, .ref 5, .ref 6, .ref 7, .ref 8, .ref 9, .ref 10, .ref 11, .ref 12, .ref 13, .ref 14, .ref 15, .ref 16, .ref 17, .ref 18, .ref 19, .ref 20, .ref 21, .ref 22, .ref 23, .ref 24, .ref 25, .ref 26, .ref 27, .ref 28, .ref 29, .ref 30, .ref 31, .ref 32, .ref 33, .ref 34, .ref 35, .ref 36, .ref 37, .ref 38, .ref 39, .ref 40, .ref 41, .ref 42, .ref 43, .ref 44, .ref 45, .ref 46, .ref 47, .ref 48, .ref 49, .ref 50, .ref 51, .ref 52, .ref 53, .ref 54, .ref 55, .ref 56, .ref 57, .ref 58, .ref 59, .ref 60, .ref 61, .ref 62, .ref 63, .ref 64, .ref 65, .ref 66, .ref 67, .ref 68, .ref 69, .ref 70, .ref 71, .ref 72, .ref 73, .ref 74, .ref 75, .ref 76, .ref 77, .ref 78, .ref 79, .ref 80, .ref 81, .ref 82, .ref 83, .ref 84, .ref 85, .ref 86, .ref 87, .ref 88, .ref 89, .ref 90, .ref 91, .ref 92, .ref 93, .ref 94, .ref 95, .ref 96, .ref 97, .ref 98, .ref 99, .ref 100, .ref 101, .ref 102, .ref 103, .ref 104, .ref 105, .ref 106, .ref 107, .ref 108, .ref 109, .ref 110, .ref 111, .ref 112, .ref 113, .ref 114, .ref 115, .ref 116, .ref 117, .ref 118, .ref 119, .ref 120, .ref 121, .ref 122, .ref 123, .ref 124, .ref 125, .ref 126, .ref 127, .ref 128, .ref 129, .ref 130, .ref 131, .ref 132, .ref 133, .ref 134, .ref 135, .ref 136, .ref 137, .ref 138, .ref 139, .ref 140, .ref 141, .ref 142, .ref 143, .ref 144, .ref 145, .ref 146, .ref 147, .ref 148, .ref 149, .ref 150, .ref 151, .ref 152, .ref 153, .ref 154, .ref 155, .ref 156, .ref 157, .ref 158, .ref 159, .ref 160, .ref 161, .ref 162, .ref 163, .ref 164, .ref 165, .ref 166, .ref 167, .ref 168, .ref 169, .ref 170, .ref 171, .ref 172, .ref 173, .ref 174, .ref 175, .ref 176, .ref 177, .ref 178, .ref 179, .ref 180, .ref 181, .ref 182, .ref 183, .ref 184, .ref 185, .ref 186, .ref 187, .ref 188, .ref 189, .ref 190, .ref 191, .ref 192, .ref 193, .ref 194, .ref 195, .ref 196, .ref 197, .ref 198, .ref 199, .ref 200, .ref 201, .ref 202, .ref 203, .ref 204, .ref 205, .ref 206, .ref 207, .ref 208, .ref 209, .ref 210, .ref 211, .ref 212, .ref 213, .ref 214, .ref 215, .ref 216, .ref 217, .ref 218, .ref 219, .ref 220, .ref 221, .ref 222, .ref 223, .ref 224, .ref 225, .ref 226, .ref 227, .ref 228, .ref 229, .ref 230, .ref 231, .ref 232, .ref 233, .ref 234, .ref 235, .ref 236, .ref 237, .ref 238, .ref 239, .ref 240, .ref 241, .ref 242, .ref 243, .ref 244, .ref 245, .ref 246, .ref 247, .ref 248, .ref 249, .ref 250, .ref 251, .ref 252, .ref 253, .ref 254, .ref 255, .ref 256, .ref 257, .ref 258, .ref 259], vm := .none },
  { cls := 12, slots := #[.long (-128)], vm := .none },
  { cls := 12, slots := #[.long (-127)], vm := .none },
  { cls := 12, slots := #[.long (-126)], vm := .none },
  { cls := 12, slots := #[.long (-125)], vm := .none },
  { cls := 12, slots := #[.long (-124)], vm := .none },
  { cls := 12, slots := #[.long (-123)], vm := .none },
  { cls := 12, slots := #[.long (-122)], vm := .none },
  { cls := 12, slots := #[.long (-121)], vm := .none },
  { cls := 12, slots := #[.long (-120)], vm := .none },
  { cls := 12, slots := #[.long (-119)], vm := .none },
  { cls := 12, slots := #[.long (-118)], vm := .none },
  { cls := 12, slots := #[.long (-117)], vm := .none },
  { cls := 12, slots := #[.long (-116)], vm := .none },
  { cls := 12, slots := #[.long (-115)], vm := .none },
  { cls := 12, slots := #[.long (-114)], vm := .none },
  { cls := 12, slots := #[.long (-113)], vm := .none },
  { cls := 12, slots := #[.long (-112)], vm := .none },
  { cls := 12, slots := #[.long (-111)], vm := .none },
  { cls := 12, slots := #[.long (-110)], vm := .none },
  { cls := 12, slots := #[.long (-109)], vm := .none },
  { cls := 12, slots := #[.long (-108)], vm := .none },
  { cls := 12, slots := #[.long (-107)], vm := .none },
  { cls := 12, slots := #[.long (-106)], vm := .none },
  { cls := 12, slots := #[.long (-105)], vm := .none },
  { cls := 12, slots := #[.long (-104)], vm := .none },
  { cls := 12, slots := #[.long (-103)], vm := .none },
  { cls := 12, slots := #[.long (-102)], vm := .none },
  { cls := 12, slots := #[.long (-101)], vm := .none },
  { cls := 12, slots := #[.long (-100)], vm := .none },
  { cls := 12, slots := #[.long (-99)], vm := .none },
  { cls := 12, slots := #[.long (-98)], vm := .none },
  { cls := 12, slots := #[.long (-97)], vm := .none },
  { cls := 12, slots := #[.long (-96)], vm := .none },
  { cls := 12, slots := #[.long (-95)], vm := .none },
  { cls := 12, slots := #[.long (-94)], vm := .none },
  { cls := 12, slots := #[.long (-93)], vm := .none },
  { cls := 12, slots := #[.long (-92)], vm := .none },
  { cls := 12, slots := #[.long (-91)], vm := .none },
  { cls := 12, slots := #[.long (-90)], vm := .none },
  { cls := 12, slots := #[.long (-89)], vm := .none },
  { cls := 12, slots := #[.long (-88)], vm := .none },
  { cls := 12, slots := #[.long (-87)], vm := .none },
  { cls := 12, slots := #[.long (-86)], vm := .none },
  { cls := 12, slots := #[.long (-85)], vm := .none },
  { cls := 12, slots := #[.long (-84)], vm := .none },
  { cls := 12, slots := #[.long (-83)], vm := .none },
  { cls := 12, slots := #[.long (-82)], vm := .none },
  { cls := 12, slots := #[.long (-81)], vm := .none },
  { cls := 12, slots := #[.long (-80)], vm := .none },
  { cls := 12, slots := #[.long (-79)], vm := .none },
  { cls := 12, slots := #[.long (-78)], vm := .none },
  { cls := 12, slots := #[.long (-77)], vm := .none },
  { cls := 12, slots := #[.long (-76)], vm := .none },
  { cls := 12, slots := #[.long (-75)], vm := .none },
  { cls := 12, slots := #[.long (-74)], vm := .none },
  { cls := 12, slots := #[.long (-73)], vm := .none },
  { cls := 12, slots := #[.long (-72)], vm := .none },
  { cls := 12, slots := #[.long (-71)], vm := .none },
  { cls := 12, slots := #[.long (-70)], vm := .none },
  { cls := 12, slots := #[.long (-69)], vm := .none },
  { cls := 12, slots := #[.long (-68)], vm := .none },
  { cls := 12, slots := #[.long (-67)], vm := .none },
  { cls := 12, slots := #[.long (-66)], vm := .none },
  { cls := 12, slots := #[.long (-65)], vm := .none },
  { cls := 12, slots := #[.long (-64)], vm := .none },
  { cls := 12, slots := #[.long (-63)], vm := .none },
  { cls := 12, slots := #[.long (-62)], vm := .none },
  { cls := 12, slots := #[.long (-61)], vm := .none },
  { cls := 12, slots := #[.long (-60)], vm := .none },
  { cls := 12, slots := #[.long (-59)], vm := .none },
  { cls := 12, slots := #[.long (-58)], vm := .none },
  { cls := 12, slots := #[.long (-57)], vm := .none },
  { cls := 12, slots := #[.long (-56)], vm := .none },
  { cls := 12, slots := #[.long (-55)], vm := .none },
  { cls := 12, slots := #[.long (-54)], vm := .none },
  { cls := 12, slots := #[.long (-53)], vm := .none },
  { cls := 12, slots := #[.long (-52)], vm := .none },
  { cls := 12, slots := #[.long (-51)], vm := .none },
  { cls := 12, slots := #[.long (-50)], vm := .none },
  { cls := 12, slots := #[.long (-49)], vm := .none },
  { cls := 12, slots := #[.long (-48)], vm := .none },
  { cls := 12, slots := #[.long (-47)], vm := .none },
  { cls := 12, slots := #[.long (-46)], vm := .none },
  { cls := 12, slots := #[.long (-45)], vm := .none },
  { cls := 12, slots := #[.long (-44)], vm := .none },
  { cls := 12, slots := #[.long (-43)], vm := .none },
  { cls := 12, slots := #[.long (-42)], vm := .none },
  { cls := 12, slots := #[.long (-41)], vm := .none },
  { cls := 12, slots := #[.long (-40)], vm := .none },
  { cls := 12, slots := #[.long (-39)], vm := .none },
  { cls := 12, slots := #[.long (-38)], vm := .none },
  { cls := 12, slots := #[.long (-37)], vm := .none },
  { cls := 12, slots := #[.long (-36)], vm := .none },
  { cls := 12, slots := #[.long (-35)], vm := .none },
  { cls := 12, slots := #[.long (-34)], vm := .none },
  { cls := 12, slots := #[.long (-33)], vm := .none },
  { cls := 12, slots := #[.long (-32)], vm := .none },
  { cls := 12, slots := #[.long (-31)], vm := .none },
  { cls := 12, slots := #[.long (-30)], vm := .none },
  { cls := 12, slots := #[.long (-29)], vm := .none },
  { cls := 12, slots := #[.long (-28)], vm := .none },
  { cls := 12, slots := #[.long (-27)], vm := .none },
  { cls := 12, slots := #[.long (-26)], vm := .none },
  { cls := 12, slots := #[.long (-25)], vm := .none },
  { cls := 12, slots := #[.long (-24)], vm := .none },
  { cls := 12, slots := #[.long (-23)], vm := .none },
  { cls := 12, slots := #[.long (-22)], vm := .none },
  { cls := 12, slots := #[.long (-21)], vm := .none },
  { cls := 12, slots := #[.long (-20)], vm := .none },
  { cls := 12, slots := #[.long (-19)], vm := .none },
  { cls := 12, slots := #[.long (-18)], vm := .none },
  { cls := 12, slots := #[.long (-17)], vm := .none },
  { cls := 12, slots := #[.long (-16)], vm := .none },
  { cls := 12, slots := #[.long (-15)], vm := .none },
  { cls := 12, slots := #[.long (-14)], vm := .none },
  { cls := 12, slots := #[.long (-13)], vm := .none },
  { cls := 12, slots := #[.long (-12)], vm := .none },
  { cls := 12, slots := #[.long (-11)], vm := .none },
  { cls := 12, slots := #[.long (-10)], vm := .none },
  { cls := 12, slots := #[.long (-9)], vm := .none },
  { cls := 12, slots := #[.long (-8)], vm := .none },
  { cls := 12, slots := #[.long (-7)], vm := .none },
  { cls := 12, slots := #[.long (-6)], vm := .none },
  { cls := 12, slots := #[.long (-5)], vm := .none },
  { cls := 12, slots := #[.long (-4)], vm := .none },
  { cls := 12, slots := #[.long (-3)], vm := .none },
  { cls := 12, slots := #[.long (-2)], vm := .none },
  { cls := 12, slots := #[.long (-1)], vm := .none },
  { cls := 12, slots := #[.long (0)], vm := .none },
  { cls := 12, slots := #[.long (1)], vm := .none },
  { cls := 12, slots := #[.long (2)], vm := .none },
  { cls := 12, slots := #[.long (3)], vm := .none },
  { cls := 12, slots := #[.long (4)], vm := .none },
  { cls := 12, slots := #[.long (5)], vm := .none },
  { cls := 12, slots := #[.long (6)], vm := .none },
  { cls := 12, slots := #[.long (7)], vm := .none },
  { cls := 12, slots := #[.long (8)], vm := .none },
  { cls := 12, slots := #[.long (9)], vm := .none },
  { cls := 12, slots := #[.long (10)], vm := .none },
  { cls := 12, slots := #[.long (11)], vm := .none },
  { cls := 12, slots := #[.long (12)], vm := .none },
  { cls := 12, slots := #[.long (13)], vm := .none },
  { cls := 12, slots := #[.long (14)], vm := .none },
  { cls := 12, slots := #[.long (15)], vm := .none },
  { cls := 12, slots := #[.long (16)], vm := .none },
  { cls := 12, slots := #[.long (17)], vm := .none },
  { cls := 12, slots := #[.long (18)], vm := .none },
  { cls := 12, slots := #[.long (19)], vm := .none },
  { cls := 12, slots := #[.long (20)], vm := .none },
  { cls := 12, slots := #[.long (21)], vm := .none },
  { cls := 12, slots := #[.long (22)], vm := .none },
  { cls := 12, slots := #[.long (23)], vm := .none },
  { cls := 12, slots := #[.long (24)], vm := .none },
  { cls := 12, slots := #[.long (25)], vm := .none },
  { cls := 12, slots := #[.long (26)], vm := .none },
  { cls := 12, slots := #[.long (27)], vm := .none },
  { cls := 12, slots := #[.long (28)], vm := .none },
  { cls := 12, slots := #[.long (29)], vm := .none },
  { cls := 12, slots := #[.long (30)], vm := .none },
  { cls := 12, slots := #[.long (31)], vm := .none },
  { cls := 12, slots := #[.long (32)], vm := .none },
  { cls := 12, slots := #[.long (33)], vm := .none },
  { cls := 12, slots := #[.long (34)], vm := .none },
  { cls := 12, slots := #[.long (35)], vm := .none },
  { cls := 12, slots := #[.long (36)], vm := .none },
  { cls := 12, slots := #[.long (37)], vm := .none },
  { cls := 12, slots := #[.long (38)], vm := .none },
  { cls := 12, slots := #[.long (39)], vm := .none },
  { cls := 12, slots := #[.long (40)], vm := .none },
  { cls := 12, slots := #[.long (41)], vm := .none },
  { cls := 12, slots := #[.long (42)], vm := .none },
  { cls := 12, slots := #[.long (43)], vm := .none },
  { cls := 12, slots := #[.long (44)], vm := .none },
  { cls := 12, slots := #[.long (45)], vm := .none },
  { cls := 12, slots := #[.long (46)], vm := .none },
  { cls := 12, slots := #[.long (47)], vm := .none },
  { cls := 12, slots := #[.long (48)], vm := .none },
  { cls := 12, slots := #[.long (49)], vm := .none },
  { cls := 12, slots := #[.long (50)], vm := .none },
  { cls := 12, slots := #[.long (51)], vm := .none },
  { cls := 12, slots := #[.long (52)], vm := .none },
  { cls := 12, slots := #[.long (53)], vm := .none },
  { cls := 12, slots := #[.long (54)], vm := .none },
  { cls := 12, slots := #[.long (55)], vm := .none },
  { cls := 12, slots := #[.long (56)], vm := .none },
  { cls := 12, slots := #[.long (57)], vm := .none },
  { cls := 12, slots := #[.long (58)], vm := .none },
  { cls := 12, slots := #[.long (59)], vm := .none },
  { cls := 12, slots := #[.long (60)], vm := .none },
  { cls := 12, slots := #[.long (61)], vm := .none },
  { cls := 12, slots := #[.long (62)], vm := .none },
  { cls := 12, slots := #[.long (63)], vm := .none },
  { cls := 12, slots := #[.long (64)], vm := .none },
  { cls := 12, slots := #[.long (65)], vm := .none },
  { cls := 12, slots := #[.long (66)], vm := .none },
  { cls := 12, slots := #[.long (67)], vm := .none },
  { cls := 12, slots := #[.long (68)], vm := .none },
  { cls := 12, slots := #[.long (69)], vm := .none },
  { cls := 12, slots := #[.long (70)], vm := .none },
  { cls := 12, slots := #[.long (71)], vm := .none },
  { cls := 12, slots := #[.long (72)], vm := .none },
  { cls := 12, slots := #[.long (73)], vm := .none },
  { cls := 12, slots := #[.long (74)], vm := .none },
  { cls := 12, slots := #[.long (75)], vm := .none },
  { cls := 12, slots := #[.long (76)], vm := .none },
  { cls := 12, slots := #[.long (77)], vm := .none },
  { cls := 12, slots := #[.long (78)], vm := .none },
  { cls := 12, slots := #[.long (79)], vm := .none },
  { cls := 12, slots := #[.long (80)], vm := .none },
  { cls := 12, slots := #[.long (81)], vm := .none },
  { cls := 12, slots := #[.long (82)], vm := .none },
  { cls := 12, slots := #[.long (83)], vm := .none },
  { cls := 12, slots := #[.long (84)], vm := .none },
  { cls := 12, slots := #[.long (85)], vm := .none },
  { cls := 12, slots := #[.long (86)], vm := .none },
  { cls := 12, slots := #[.long (87)], vm := .none },
  { cls := 12, slots := #[.long (88)], vm := .none },
  { cls := 12, slots := #[.long (89)], vm := .none },
  { cls := 12, slots := #[.long (90)], vm := .none },
  { cls := 12, slots := #[.long (91)], vm := .none },
  { cls := 12, slots := #[.long (92)], vm := .none },
  { cls := 12, slots := #[.long (93)], vm := .none },
  { cls := 12, slots := #[.long (94)], vm := .none },
  { cls := 12, slots := #[.long (95)], vm := .none },
  { cls := 12, slots := #[.long (96)], vm := .none },
  { cls := 12, slots := #[.long (97)], vm := .none },
  { cls := 12, slots := #[.long (98)], vm := .none },
  { cls := 12, slots := #[.long (99)], vm := .none },
  { cls := 12, slots := #[.long (100)], vm := .none },
  { cls := 12, slots := #[.long (101)], vm := .none },
  { cls := 12, slots := #[.long (102)], vm := .none },
  { cls := 12, slots := #[.long (103)], vm := .none },
  { cls := 12, slots := #[.long (104)], vm := .none },
  { cls := 12, slots := #[.long (105)], vm := .none },
  { cls := 12, slots := #[.long (106)], vm := .none },
  { cls := 12, slots := #[.long (107)], vm := .none },
  { cls := 12, slots := #[.long (108)], vm := .none },
  { cls := 12, slots := #[.long (109)], vm := .none },
  { cls := 12, slots := #[.long (110)], vm := .none },
  { cls := 12, slots := #[.long (111)], vm := .none },
  { cls := 12, slots := #[.long (112)], vm := .none },
  { cls := 12, slots := #[.long (113)], vm := .none },
  { cls := 12, slots := #[.long (114)], vm := .none },
  { cls := 12, slots := #[.long (115)], vm := .none },
  { cls := 12, slots := #[.long (116)], vm := .none },
  { cls := 12, slots := #[.long (117)], vm := .none },
  { cls := 12, slots := #[.long (118)], vm := .none },
  { cls := 12, slots := #[.long (119)], vm := .none },
  { cls := 12, slots := #[.long (120)], vm := .none },
  { cls := 12, slots := #[.long (121)], vm := .none },
  { cls := 12, slots := #[.long (122)], vm := .none },
  { cls := 12, slots := #[.long (123)], vm := .none },
  { cls := 12, slots := #[.long (124)], vm := .none },
  { cls := 12, slots := #[.long (125)], vm := .none },
  { cls := 12, slots := #[.long (126)], vm := .none },
  { cls := 12, slots := #[.long (127)], vm := .none }]
def classes : Array Class := #[k0, k1, k2, k3, k4, k5, k6, k7, k8, k9, k10, k11, k12, k13, k14, k15, k16, k17, k18, k19, k20, k21, k22, k23]
def interned : List (Array UInt16 × Addr) := []
def slotsUsed : Nat := 525
def theMethod : MethodId := ⟨1, 1⟩
def args0 : Array Value := #[.long 5, .long 7, .int 65, .int 66, .int 0]
def aboutOver (below : List Frame) : State where
  vm := { classes := classes, interned := interned.toArray }
  heap := heap
  slotsUsed := slotsUsed
  threads := #[{ frames := .invoking theMethod args0 :: below }]
def below0 : List Frame := [.native { method := ⟨0, 0⟩, args := #[] }]
def about1 : State := aboutOver below0
def p0 : Program := .bare "" "" ""
def e0 : Env := launch0.env 0 0 0
theorem w_frames : about1.frames = Frame.invoking theMethod args0 :: below0 := rfl
set_option maxRecDepth 65536 in
theorem w_args : argsFit about1.vm theMethod args0 = true := by decide +kernel
set_option maxRecDepth 65536 in
theorem w_heap : heapFits about1 = true := by decide +kernel
set_option maxRecDepth 65536 in
theorem w_runnable : about1.curStatus? = some .runnable := by decide +kernel
set_option maxRecDepth 65536 in
theorem w_alone : about1.alone = true := by decide +kernel
set_option maxRecDepth 65536 in
theorem w_named : about1.methodNamed? x = some theMethod := by decide +kernel
set_option maxRecDepth 65536 in
theorem w_hears : about1.hears theMethod below0 = true := by decide +kernel
set_option maxRecDepth 65536 in
theorem w_ripe : about1.ripe theMethod args0 below0 = true := by decide +kernel
theorem w_running : about1.status = .running := rfl
set_option maxRecDepth 65536 in
theorem w_room : about1.hasRoom e0.platform room_1 = true :=
  launch0.hasRoom_least _ room_1 (by decide +kernel) (by decide +kernel) (by decide +kernel) (by decide +kernel) (by decide +kernel) (by decide +kernel)
theorem allAtoms_all (ts : List Jvm.Cond) (a : Array Jvm.Value) (st : Jvm.State) : (allAtoms ts).before a st = ts.all (fun c => c.before a st) := by
  induction ts with
  | nil => rfl
  | cons c t ih =>
    show (Jvm.Cond.and c (allAtoms t)).before a st = _
    rw [Jvm.Cond.before_and, ih, List.all_cons]
def words1 : List Jvm.Cond := Jvm.Cond.code x code maxLocals ret :: tables_1
/-- a 'code' word, met by the world's own term for the bytes: nothing is compared byte by byte -/
theorem code_word {y : MethodName} {bytes : ByteArray} {mx : Nat} {rt : Option FieldType} {a : Array Value} {s : State} {m : MethodId} {meth : Method} {c : Code} (h1 : s.methodNamed? y = some m) (h2 : s.vm.method? m = some meth) (h3 : meth.code = some c) (h4 : c.code = bytes)
    (h5 : (c.maxLocals == mx && c.exceptionTable.isEmpty && decide (c.maxStack ≤ mostOperands) && decide (meth.sig.returnType = rt) && !meth.locks && decide (parseMethodDescriptor y.desc = some meth.sig)) = true) : (Jvm.Cond.code y bytes mx rt).before a s = true := by
  simp only [Bool.and_eq_true, beq_iff_eq, Bool.not_eq_true', decide_eq_true_eq] at h5
  obtain ⟨⟨⟨⟨⟨g1, g2⟩, g3⟩, g4⟩, g5⟩, g6⟩ := h5
  simp [Cond.before, Cond.holds, Cond.value, h1, h2, h3, h4, g1, g2, g3, g4, g5, g6]
def isCode : Jvm.Cond → Bool
  | .code _ _ _ _ => true
  | _ => false
theorem all_split {L : List Jvm.Cond} {P : Jvm.Cond → Bool} (h1 : L.all (fun c => isCode c || P c) = true) (h2 : ∀ c ∈ L.filter isCode, P c = true) : L.all P = true := by
  refine List.all_eq_true.mpr fun c hc => ?_
  have h := List.all_eq_true.mp h1 c hc
  rcases Bool.eq_false_or_eq_true (isCode c) with hi | hi
  · exact h2 c (List.mem_filter.mpr ⟨hc, hi⟩)
  · simpa [hi] using h
set_option maxRecDepth 65536 in
theorem w_c0 : (Jvm.Cond.code x code maxLocals ret).before args0 about1 = true := code_word (m := ⟨1, 1⟩) (meth := k1m1) (c := k1c1) (by decide +kernel) rfl rfl rfl (by decide +kernel)
set_option maxRecDepth 65536 in
theorem w_c1 : (Jvm.Cond.code ({ cls := "java/lang/String", name := "<init>", desc := "([C)V" } : Jvm.MethodName) jdk_42_method_3_code (2 : Nat) (Option.none : Option Jvm.ClassFile.FieldType)).before args0 about1 = true := code_word (m := ⟨7, 1⟩) (meth := k7m1) (c := k7c1) (by decide +kernel) rfl rfl rfl (by decide +kernel)
set_option maxRecDepth 65536 in
theorem w_c2 : (Jvm.Cond.code ({ cls := "java/lang/String", name := "<init>", desc := "([CIILjava/lang/Void;)V" } : Jvm.MethodName) jdk_42_method_149_code (6 : Nat) (Option.none : Option Jvm.ClassFile.FieldType)).before args0 about1 = true := code_word (m := ⟨7, 3⟩) (meth := k7m3) (c := k7c3) (by decide +kernel) rfl rfl rfl (by decide +kernel)
set_option maxRecDepth 65536 in
theorem w_c3 : (Jvm.Cond.code ({ cls := "java/lang/Object", name := "<init>", desc := "()V" } : Jvm.MethodName) object_method_1_code (1 : Nat) (Option.none : Option Jvm.ClassFile.FieldType)).before args0 about1 = true := code_word (m := ⟨0, 0⟩) (meth := k0m0) (c := k0c0) (by decide +kernel) rfl rfl rfl (by decide +kernel)
set_option maxRecDepth 65536 in
theorem w_c4 : (Jvm.Cond.code ({ cls := "java/lang/StringUTF16", name := "compress", desc := "([CII)[B" } : Jvm.MethodName) jdk_52_method_16_code (6 : Nat) (Option.some (Jvm.ClassFile.FieldType.array Jvm.ClassFile.FieldType.byte))).before args0 about1 = true := code_word (m := ⟨8, 2⟩) (meth := k8m2) (c := k8c2) (by decide +kernel) rfl rfl rfl (by decide +kernel)
set_option maxRecDepth 65536 in
theorem w_c5 : (Jvm.Cond.code ({ cls := "java/lang/StringUTF16", name := "compress", desc := "([CI[BII)I" } : Jvm.MethodName) jdk_52_method_21_code (7 : Nat) (Option.some Jvm.ClassFile.FieldType.int)).before args0 about1 = true := code_word (m := ⟨8, 3⟩) (meth := k8m3) (c := k8c3) (by decide +kernel) rfl rfl rfl (by decide +kernel)
set_option maxRecDepth 65536 in
theorem w_c6 : (Jvm.Cond.code ({ cls := "java/lang/StringUTF16", name := "coderFromArrayLen", desc := "([BI)B" } : Jvm.MethodName) jdk_52_method_15_code (2 : Nat) (Option.some Jvm.ClassFile.FieldType.byte)).before args0 about1 = true := code_word (m := ⟨8, 1⟩) (meth := k8m1) (c := k8c1) (by decide +kernel) rfl rfl rfl (by decide +kernel)
set_option maxRecDepth 65536 in
theorem w_c7 : (Jvm.Cond.code ({ cls := "java/lang/String", name := "valueOf", desc := "(C)Ljava/lang/String;" } : Jvm.MethodName) jdk_42_method_139_code (1 : Nat) (Option.some (Jvm.ClassFile.FieldType.object "java/lang/String"))).before args0 about1 = true := code_word (m := ⟨7, 2⟩) (meth := k7m2) (c := k7c2) (by decide +kernel) rfl rfl rfl (by decide +kernel)
set_option maxRecDepth 65536 in
theorem w_c8 : (Jvm.Cond.code ({ cls := "java/lang/StringLatin1", name := "canEncode", desc := "(C)Z" } : Jvm.MethodName) jdk_43_method_3_code (1 : Nat) (Option.some Jvm.ClassFile.FieldType.boolean)).before args0 about1 = true := code_word (m := ⟨9, 1⟩) (meth := k9m1) (c := k9c1) (by decide +kernel) rfl rfl rfl (by decide +kernel)
set_option maxRecDepth 65536 in
theorem w_c9 : (Jvm.Cond.code ({ cls := "java/lang/StringLatin1", name := "toBytes", desc := "(C)[B" } : Jvm.MethodName) jdk_43_method_46_code (1 : Nat) (Option.some (Jvm.ClassFile.FieldType.array Jvm.ClassFile.FieldType.byte))).before args0 about1 = true := code_word (m := ⟨9, 2⟩) (meth := k9m2) (c := k9c2) (by decide +kernel) rfl rfl rfl (by decide +kernel)
set_option maxRecDepth 65536 in
theorem w_c10 : (Jvm.Cond.code ({ cls := "java/lang/String", name := "<init>", desc := "([BB)V" } : Jvm.MethodName) jdk_42_method_151_code (3 : Nat) (Option.none : Option Jvm.ClassFile.FieldType)).before args0 about1 = true := code_word (m := ⟨7, 4⟩) (meth := k7m4) (c := k7c4) (by decide +kernel) rfl rfl rfl (by decide +kernel)
set_option maxRecDepth 65536 in
theorem w_c11 : (Jvm.Cond.code ({ cls := "com/example/row_lease/rowlease/AssignedKey", name := "<init>", desc := "()V" } : Jvm.MethodName) prog_1_method_1_code (1 : Nat) (Option.none : Option Jvm.ClassFile.FieldType)).before args0 about1 = true := code_word (m := ⟨10, 0⟩) (meth := k10m0) (c := k10c0) (by decide +kernel) rfl rfl rfl (by decide +kernel)
set_option maxRecDepth 65536 in
theorem w_c12 : (Jvm.Cond.code ({ cls := "com/example/row_lease/rowlease/AssignedKey", name := "assign", desc := "(Ljava/lang/Object;)V" } : Jvm.MethodName) prog_1_method_3_code (2 : Nat) (Option.none : Option Jvm.ClassFile.FieldType)).before args0 about1 = true := code_word (m := ⟨10, 2⟩) (meth := k10m2) (c := k10c2) (by decide +kernel) rfl rfl rfl (by decide +kernel)
set_option maxRecDepth 65536 in
theorem w_c13 : (Jvm.Cond.code ({ cls := "com/example/row_lease/rowlease/AssignedKey", name := "get", desc := "()Ljava/lang/Object;" } : Jvm.MethodName) prog_1_method_2_code (1 : Nat) (Option.some (Jvm.ClassFile.FieldType.object "java/lang/Object"))).before args0 about1 = true := code_word (m := ⟨10, 1⟩) (meth := k10m1) (c := k10c1) (by decide +kernel) rfl rfl rfl (by decide +kernel)
set_option maxRecDepth 65536 in
theorem w_c14 : (Jvm.Cond.code ({ cls := "java/lang/Long", name := "valueOf", desc := "(J)Ljava/lang/Long;" } : Jvm.MethodName) jdk_35_method_24_code (3 : Nat) (Option.some (Jvm.ClassFile.FieldType.object "java/lang/Long"))).before args0 about1 = true := code_word (m := ⟨12, 0⟩) (meth := k12m0) (c := k12c0) (by decide +kernel) rfl rfl rfl (by decide +kernel)
set_option maxRecDepth 65536 in
theorem w_c15 : (Jvm.Cond.code ({ cls := "java/lang/Long", name := "<init>", desc := "(J)V" } : Jvm.MethodName) jdk_35_method_26_code (3 : Nat) (Option.none : Option Jvm.ClassFile.FieldType)).before args0 about1 = true := code_word (m := ⟨12, 1⟩) (meth := k12m1) (c := k12c1) (by decide +kernel) rfl rfl rfl (by decide +kernel)
set_option maxRecDepth 65536 in
theorem w_c16 : (Jvm.Cond.code ({ cls := "java/lang/Number", name := "<init>", desc := "()V" } : Jvm.MethodName) jdk_18_method_1_code (1 : Nat) (Option.none : Option Jvm.ClassFile.FieldType)).before args0 about1 = true := code_word (m := ⟨11, 0⟩) (meth := k11m0) (c := k11c0) (by decide +kernel) rfl rfl rfl (by decide +kernel)
def codes1 : List Jvm.Cond := [Jvm.Cond.code x code maxLocals ret, Jvm.Cond.code ({ cls := "java/lang/String", name := "<init>", desc := "([C)V" } : Jvm.MethodName) jdk_42_method_3_code (2 : Nat) (Option.none : Option Jvm.ClassFile.FieldType), Jvm.Cond.code ({ cls := "java/lang/String", name := "<init>", desc := "([CIILjava/lang/Void;)V" } : Jvm.MethodName) jdk_42_method_149_code (6 : Nat) (Option.none : Option Jvm.ClassFile.FieldType), Jvm.Cond.code ({ cls := "java/lang/Object", name := "<init>", desc := "()V" } : Jvm.MethodName) object_method_1_code (1 : Nat) (Option.none : Option Jvm.ClassFile.FieldType), Jvm.Cond.code ({ cls := "java/lang/StringUTF16", name := "compress", desc := "([CII)[B" } : Jvm.MethodName) jdk_52_method_16_code (6 : Nat) (Option.some (Jvm.ClassFile.FieldType.array Jvm.ClassFile.FieldType.byte)), Jvm.Cond.code ({ cls := "java/lang/StringUTF16", name := "compress", desc := "([CI[BII)I" } : Jvm.MethodName) jdk_52_method_21_code (7 : Nat) (Option.some Jvm.ClassFile.FieldType.int), Jvm.Cond.code ({ cls := "java/lang/StringUTF16", name := "coderFromArrayLen", desc := "([BI)B" } : Jvm.MethodName) jdk_52_method_15_code (2 : Nat) (Option.some Jvm.ClassFile.FieldType.byte), Jvm.Cond.code ({ cls := "java/lang/String", name := "valueOf", desc := "(C)Ljava/lang/String;" } : Jvm.MethodName) jdk_42_method_139_code (1 : Nat) (Option.some (Jvm.ClassFile.FieldType.object "java/lang/String")), Jvm.Cond.code ({ cls := "java/lang/StringLatin1", name := "canEncode", desc := "(C)Z" } : Jvm.MethodName) jdk_43_method_3_code (1 : Nat) (Option.some Jvm.ClassFile.FieldType.boolean), Jvm.Cond.code ({ cls := "java/lang/StringLatin1", name := "toBytes", desc := "(C)[B" } : Jvm.MethodName) jdk_43_method_46_code (1 : Nat) (Option.some (Jvm.ClassFile.FieldType.array Jvm.ClassFile.FieldType.byte)), Jvm.Cond.code ({ cls := "java/lang/String", name := "<init>", desc := "([BB)V" } : Jvm.MethodName) jdk_42_method_151_code (3 : Nat) (Option.none : Option Jvm.ClassFile.FieldType), Jvm.Cond.code ({ cls := "com/example/row_lease/rowlease/AssignedKey", name := "<init>", desc := "()V" } : Jvm.MethodName) prog_1_method_1_code (1 : Nat) (Option.none : Option Jvm.ClassFile.FieldType), Jvm.Cond.code ({ cls := "com/example/row_lease/rowlease/AssignedKey", name := "assign", desc := "(Ljava/lang/Object;)V" } : Jvm.MethodName) prog_1_method_3_code (2 : Nat) (Option.none : Option Jvm.ClassFile.FieldType), Jvm.Cond.code ({ cls := "com/example/row_lease/rowlease/AssignedKey", name := "get", desc := "()Ljava/lang/Object;" } : Jvm.MethodName) prog_1_method_2_code (1 : Nat) (Option.some (Jvm.ClassFile.FieldType.object "java/lang/Object")), Jvm.Cond.code ({ cls := "java/lang/Long", name := "valueOf", desc := "(J)Ljava/lang/Long;" } : Jvm.MethodName) jdk_35_method_24_code (3 : Nat) (Option.some (Jvm.ClassFile.FieldType.object "java/lang/Long")), Jvm.Cond.code ({ cls := "java/lang/Long", name := "<init>", desc := "(J)V" } : Jvm.MethodName) jdk_35_method_26_code (3 : Nat) (Option.none : Option Jvm.ClassFile.FieldType), Jvm.Cond.code ({ cls := "java/lang/Number", name := "<init>", desc := "()V" } : Jvm.MethodName) jdk_18_method_1_code (1 : Nat) (Option.none : Option Jvm.ClassFile.FieldType)]
set_option maxRecDepth 65536 in
theorem codes_eq : words1.filter isCode = codes1 := rfl
theorem w_codes : ∀ c ∈ words1.filter isCode, c.before args0 about1 = true := by
  rw [codes_eq]
  intro c hc
  simp only [codes1, List.mem_cons, List.not_mem_nil, or_false] at hc
  rcases hc with rfl | rfl | rfl | rfl | rfl | rfl | rfl | rfl | rfl | rfl | rfl | rfl | rfl | rfl | rfl | rfl | rfl
  · exact w_c0
  · exact w_c1
  · exact w_c2
  · exact w_c3
  · exact w_c4
  · exact w_c5
  · exact w_c6
  · exact w_c7
  · exact w_c8
  · exact w_c9
  · exact w_c10
  · exact w_c11
  · exact w_c12
  · exact w_c13
  · exact w_c14
  · exact w_c15
  · exact w_c16
set_option maxRecDepth 65536 in
theorem w_t1 : (words1.take 24).all (fun c => isCode c || c.before args0 about1) = true := by decide +kernel
set_option maxRecDepth 65536 in
theorem w_t2 : ((words1.drop 24).take 24).all (fun c => isCode c || c.before args0 about1) = true := by decide +kernel
set_option maxRecDepth 65536 in
theorem w_t3 : (((words1.drop 24).drop 24).take 24).all (fun c => isCode c || c.before args0 about1) = true := by decide +kernel
set_option maxRecDepth 65536 in
theorem w_t4 : (((words1.drop 24).drop 24).drop 24).all (fun c => isCode c || c.before args0 about1) = true := by decide +kernel
theorem w_tables : (allAtoms (Jvm.Cond.code x code maxLocals ret :: tables_1)).before args0 about1 = true := by
  rw [allAtoms_all]
  show words1.all (fun c => c.before args0 about1) = true
  refine all_split ?_ w_codes
  rw [← List.take_append_drop 24 words1, List.all_append, w_t1, ← List.take_append_drop 24 (words1.drop 24), List.all_append, w_t2, ← List.take_append_drop 24 ((words1.drop 24).drop 24), List.all_append, w_t3, w_t4]
  rfl
set_option maxRecDepth 65536 in
theorem w_rest : rest_1_c.before args0 about1 = true := by decide +kernel
set_option maxRecDepth 65536 in
theorem w_case : (Jvm.Cond.and given_1 narrow_1).before args0 about1 = true := by decide +kernel
theorem w_applies : (headSpec (Jvm.Cond.code x code maxLocals ret :: tables_1) room_1).applies x e0.platform about1 = true :=
  (Spec.applies_iff w_frames).mpr ⟨w_running, w_runnable, w_alone, w_named, w_hears, w_ripe, w_room, w_tables⟩
theorem atStart : AtStart classFile x code maxLocals ret World_1 tables_1 room_1 Calls_1 rest_1 Pre_1 launch0 p0 e0 about1 theMethod args0 below0 :=
  ⟨lists_1, trivial, launch0.admits_env _ _ _, launch0.least_env, fairChoices_fair.cas, fairChoices_fair.clock, w_frames, w_args, w_heap, w_applies, trivial, w_rest, w_case⟩
end start1
theorem witness_1 : WitnessClaimed_1 := ⟨start1.p0, start1.e0, start1.about1, start1.theMethod, start1.args0, start1.below0, start1.atStart⟩
end Jvm.Pilot.@@N@@
