import JvmDerived
import JvmDerived.Pilot.@@N@@Statement
import JvmDerived.Pilot.@@N@@Code
set_option linter.unusedVariables false
set_option linter.unusedSimpArgs false

namespace Jvm.OwnKit
open Sem ClassFile Op Lib Jvm.Stand Jvm.Free Jvm.LawKit Jvm.RoadKit
/-! ## What is owed from a state on, and where a walk stands: one bundle a walk -/
def Go (tb : Tables) (e : Env) (below : List Frame) (P : Outcome → State → Prop) (A : State) : Prop := ∃ s₂ o, Steps tb e below A s₂ ∧ s₂.status = .running ∧ Ended s₂ below o ∧ P o s₂
theorem Go.go {tb : Tables} {e : Env} {below : List Frame} {P : Outcome → State → Prop} {A B : State} (st : ∀ t, Steps tb e below B t → Steps tb e below A t) (k : Go tb e below P B) : Go tb e below P A := by
  obtain ⟨s2, o, h, r⟩ := k
  exact ⟨s2, o, st _ h, r⟩
theorem Go.cast {tb : Tables} {e : Env} {below : List Frame} {P : Outcome → State → Prop} {T : State} {g g' : JFrame} (q : g = g') (k : Go tb e below P (T.setTop g')) : Go tb e below P (T.setTop g) := q ▸ k
def QQ (h0 : Heap) (n0 : Nat) (ws : List Addr) (Po : Option Value → Heap → Prop) (v : Option Value) (h : Heap) (L : List Loc) : Prop := Fr n0 L ∧ Keep h0 h ws ∧ Po v h
def PO (s : State) (R : Room) (h0 : Heap) (n0 : Nat) (ws : List Addr) (Po : Option Value → Heap → Prop) (o : Outcome) (t : State) : Prop := ∃ v L, o = .returned v ∧ QQ h0 n0 ws Po v t.heap L ∧ FrameEnd s o t L R.cells R.slots
/-- a method's contract: from the heap h0, with the arguments as', it returns some v, writes nothing that is older than h0 but what lies in ws (and nothing below n0), and Po v h at its end -/
def Met (l : Launch) (y : MethodName) (bytes : ByteArray) (maxL : Nat) (ret : Option FieldType) (wl : List Cond) (rm : Room) (Z : State) (as' : Array Value) (h0 : Heap) (n0 : Nat) (ws : List Addr) (Po : Option Value → Heap → Prop) : Prop :=
  MetFree l y (head1 (Cond.code y bytes maxL ret :: wl) rm) (fun a U => a = as' ∧ Z.Warmed39 U.vm ∧ U.heap = h0) (fun _ _ _ _ _ => True) (fun _ U o U' => ∃ v L, o = .returned v ∧ QQ h0 n0 ws Po v U'.heap L ∧ FrameEnd U o U' L rm.cells rm.slots)
def Here (p : Program) (l : Launch) (e : Env) (R : Room) (s : State) (m : MethodId) (args : Array Value) (below : List Frame) (meth : Method) (c : Code) (Z : State) (bytes : ByteArray) (maxL : Nat) (ret : Option FieldType) (own nm : String) (h0 : Heap) (n0 : Nat) (ws : List Addr)
    (T : State) (h : Heap) (cells slots : Nat) : Prop :=
  ∃ locs, Stand p l e R s m args below meth c T locs cells slots ∧ Fr n0 locs ∧ T.heap = h ∧ Old Z n0 h ∧ Keep h0 h ws ∧ p.tables.exec = Jvm.exec ∧ c.code = bytes ∧ c.maxLocals = maxL ∧ meth.sig.returnType = ret ∧ meth.locks = false ∧ s.vm.findClass own = some m.cls ∧ meth.name = nm ∧ Z.Warmed39 s.vm
section Kit
variable {p : Program} {l : Launch} {e : Env} {R : Room} {s : State} {m : MethodId} {args : Array Value} {below : List Frame} {meth : Method} {c : Code} {Z : State} {bytes : ByteArray} {maxL : Nat} {ret : Option FieldType} {own nm : String} {h0 : Heap} {n0 : Nat} {ws : List Addr} {T : State} {h : Heap} {cells slots : Nat} {P : Outcome → State → Prop} {pc pc' : Nat} {Ls : Array Slot} {st rest : List Value} {a0 : Array Value}
theorem met_intro {y : MethodName} {wl : List Cond} {as' : Array Value} {Po : Option Value → Heap → Prop} (hpn : plainName own = true) (hc0 : y.cls = own) (hn0 : y.name = nm) (O : Old Z n0 h0)
    (body : ∀ p e s m below meth c s₁, Here p l e R s m as' below meth c Z bytes maxL ret own nm h0 n0 ws s₁ h0 0 0 → Go p.tables e below (PO s R h0 n0 ws Po) (s₁.setTop (entryFrame m as' maxL))) : Met l y bytes maxL ret wl R Z as' h0 n0 ws Po := by
  subst hc0 hn0
  refine MetFree.of_bodySF (plainFor_of_name hpn) hisR ?_
  intro p e s m args below meth c s₁ Bd hml0 hP hK
  obtain ⟨rfl, hZ, hh⟩ := hP
  have e0 : s₁.heap = h0 := by rw [← hh, Bd.state]; rfl
  exact body p e s m below meth c s₁ ⟨[], Stand.of_body Bd, Fr.nil n0, e0, O, Keep.refl h0 ws, Bd.exec, Bd.bytes, hml0, Bd.returns, BodyLoose.notSynchronized Bd, findClass_of_methodNamed Bd.named, (name_of_methodNamed Bd.named Bd.method).1, hZ⟩
theorem Here.old (X : Here p l e R s m args below meth c Z bytes maxL ret own nm h0 n0 ws T h cells slots) : Old Z n0 h := by obtain ⟨_, _, _, _, q, _⟩ := X; exact q
theorem Here.keep (X : Here p l e R s m args below meth c Z bytes maxL ret own nm h0 n0 ws T h cells slots) : Keep h0 h ws := by obtain ⟨_, _, _, _, _, q, _⟩ := X; exact q
theorem Here.zv (X : Here p l e R s m args below meth c Z bytes maxL ret own nm h0 n0 ws T h cells slots) : Z.Warmed39 s.vm := by obtain ⟨_, _, _, _, _, _, _, _, _, _, _, _, _, q⟩ := X; exact q
theorem Here.n0le (X : Here p l e R s m args below meth c Z bytes maxL ret own nm h0 n0 ws T h cells slots) : n0 ≤ h.size := by have q := X.old; rw [← q.1]; exact q.2.1
theorem Here.szle (X : Here p l e R s m args below meth c Z bytes maxL ret own nm h0 n0 ws T h cells slots) : h0.size ≤ h.size := X.keep.1
theorem o_iloadN {k : Fin 4} {v : Int32} (X : Here p l e R s m args below meth c Z bytes maxL ret own nm h0 n0 ws T h cells slots) (hd : decode bytes pc = .ok (.iload_n k, 1)) (hp : pc + 1 = pc') (hl : Ls[k.val]? = some (.val (.int v)))
    (k : Go p.tables e below P (T.setTop (mkF m pc' Ls (.int v :: st)))) : Go p.tables e below P (T.setTop (mkF m pc Ls st)) := by
  obtain ⟨locs, Y, N, eT, O, K, hx, hby, hml, hret, hlk, hown, hnm, hZ⟩ := X
  subst hp
  exact Go.go (fun t q => XS.iloadN Y.here hx rfl (hb hby hd) hl q) k
theorem o_iload {k : Nat} {v : Int32} (X : Here p l e R s m args below meth c Z bytes maxL ret own nm h0 n0 ws T h cells slots) (hd : decode bytes pc = .ok (.iload k, 2)) (hp : pc + 2 = pc') (hl : Ls[k]? = some (.val (.int v)))
    (k : Go p.tables e below P (T.setTop (mkF m pc' Ls (.int v :: st)))) : Go p.tables e below P (T.setTop (mkF m pc Ls st)) := by
  obtain ⟨locs, Y, N, eT, O, K, hx, hby, hml, hret, hlk, hown, hnm, hZ⟩ := X
  subst hp
  exact Go.go (fun t q => XS.iload Y.here hx rfl (hb hby hd) hl q) k
theorem o_lloadN {k : Fin 4} {v : Int64} (X : Here p l e R s m args below meth c Z bytes maxL ret own nm h0 n0 ws T h cells slots) (hd : decode bytes pc = .ok (.lload_n k, 1)) (hp : pc + 1 = pc') (hl : Ls[k.val]? = some (.val (.long v)))
    (k : Go p.tables e below P (T.setTop (mkF m pc' Ls (.long v :: st)))) : Go p.tables e below P (T.setTop (mkF m pc Ls st)) := by
  obtain ⟨locs, Y, N, eT, O, K, hx, hby, hml, hret, hlk, hown, hnm, hZ⟩ := X
  subst hp
  exact Go.go (fun t q => XS.lloadN Y.here hx rfl (hb hby hd) hl q) k
theorem o_lload {k : Nat} {v : Int64} (X : Here p l e R s m args below meth c Z bytes maxL ret own nm h0 n0 ws T h cells slots) (hd : decode bytes pc = .ok (.lload k, 2)) (hp : pc + 2 = pc') (hl : Ls[k]? = some (.val (.long v)))
    (k : Go p.tables e below P (T.setTop (mkF m pc' Ls (.long v :: st)))) : Go p.tables e below P (T.setTop (mkF m pc Ls st)) := by
  obtain ⟨locs, Y, N, eT, O, K, hx, hby, hml, hret, hlk, hown, hnm, hZ⟩ := X
  subst hp
  exact Go.go (fun t q => XS.lload Y.here hx rfl (hb hby hd) hl q) k
theorem o_aloadN {k : Fin 4} {v : Value} (X : Here p l e R s m args below meth c Z bytes maxL ret own nm h0 n0 ws T h cells slots) (hd : decode bytes pc = .ok (.aload_n k, 1)) (hp : pc + 1 = pc') (hl : Ls[k.val]? = some (.val v)) (hv : v.isRef = true)
    (k : Go p.tables e below P (T.setTop (mkF m pc' Ls (v :: st)))) : Go p.tables e below P (T.setTop (mkF m pc Ls st)) := by
  obtain ⟨locs, Y, N, eT, O, K, hx, hby, hml, hret, hlk, hown, hnm, hZ⟩ := X
  subst hp
  exact Go.go (fun t q => XS.aloadN Y.here hx rfl (hb hby hd) hl hv q) k
theorem o_aload {k : Nat} {v : Value} (X : Here p l e R s m args below meth c Z bytes maxL ret own nm h0 n0 ws T h cells slots) (hd : decode bytes pc = .ok (.aload k, 2)) (hp : pc + 2 = pc') (hl : Ls[k]? = some (.val v)) (hv : v.isRef = true)
    (k : Go p.tables e below P (T.setTop (mkF m pc' Ls (v :: st)))) : Go p.tables e below P (T.setTop (mkF m pc Ls st)) := by
  obtain ⟨locs, Y, N, eT, O, K, hx, hby, hml, hret, hlk, hown, hnm, hZ⟩ := X
  subst hp
  exact Go.go (fun t q => XS.aload Y.here hx rfl (hb hby hd) hl hv q) k
theorem o_istoreN {k : Fin 4} {x : Int32} {l' : Array Slot} (X : Here p l e R s m args below meth c Z bytes maxL ret own nm h0 n0 ws T h cells slots) (hd : decode bytes pc = .ok (.istore_n k, 1)) (hp : pc + 1 = pc') (hl : storeLocals Ls k.val (.int x) = some l')
    (k : Go p.tables e below P (T.setTop (mkF m pc' l' st))) : Go p.tables e below P (T.setTop (mkF m pc Ls (.int x :: st))) := by
  obtain ⟨locs, Y, N, eT, O, K, hx, hby, hml, hret, hlk, hown, hnm, hZ⟩ := X
  subst hp
  exact Go.go (fun t q => XS.istoreN Y.here hx rfl (hb hby hd) rfl hl q) k
theorem o_istore {k : Nat} {x : Int32} {l' : Array Slot} (X : Here p l e R s m args below meth c Z bytes maxL ret own nm h0 n0 ws T h cells slots) (hd : decode bytes pc = .ok (.istore k, 2)) (hp : pc + 2 = pc') (hl : storeLocals Ls k (.int x) = some l')
    (k : Go p.tables e below P (T.setTop (mkF m pc' l' st))) : Go p.tables e below P (T.setTop (mkF m pc Ls (.int x :: st))) := by
  obtain ⟨locs, Y, N, eT, O, K, hx, hby, hml, hret, hlk, hown, hnm, hZ⟩ := X
  subst hp
  exact Go.go (fun t q => XS.istore Y.here hx rfl (hb hby hd) rfl hl q) k
theorem o_lstoreN {k : Fin 4} {x : Int64} {l' : Array Slot} (X : Here p l e R s m args below meth c Z bytes maxL ret own nm h0 n0 ws T h cells slots) (hd : decode bytes pc = .ok (.lstore_n k, 1)) (hp : pc + 1 = pc') (hl : storeLocals Ls k.val (.long x) = some l')
    (k : Go p.tables e below P (T.setTop (mkF m pc' l' st))) : Go p.tables e below P (T.setTop (mkF m pc Ls (.long x :: st))) := by
  obtain ⟨locs, Y, N, eT, O, K, hx, hby, hml, hret, hlk, hown, hnm, hZ⟩ := X
  subst hp
  exact Go.go (fun t q => XS.lstoreN Y.here hx rfl (hb hby hd) rfl hl q) k
theorem o_lstore {k : Nat} {x : Int64} {l' : Array Slot} (X : Here p l e R s m args below meth c Z bytes maxL ret own nm h0 n0 ws T h cells slots) (hd : decode bytes pc = .ok (.lstore k, 2)) (hp : pc + 2 = pc') (hl : storeLocals Ls k (.long x) = some l')
    (k : Go p.tables e below P (T.setTop (mkF m pc' l' st))) : Go p.tables e below P (T.setTop (mkF m pc Ls (.long x :: st))) := by
  obtain ⟨locs, Y, N, eT, O, K, hx, hby, hml, hret, hlk, hown, hnm, hZ⟩ := X
  subst hp
  exact Go.go (fun t q => XS.lstore Y.here hx rfl (hb hby hd) rfl hl q) k
theorem o_astoreN {k : Fin 4} {v : Value} {l' : Array Slot} (X : Here p l e R s m args below meth c Z bytes maxL ret own nm h0 n0 ws T h cells slots) (hd : decode bytes pc = .ok (.astore_n k, 1)) (hp : pc + 1 = pc') (hv : v.isRef = true) (hl : storeLocals Ls k.val v = some l')
    (k : Go p.tables e below P (T.setTop (mkF m pc' l' st))) : Go p.tables e below P (T.setTop (mkF m pc Ls (v :: st))) := by
  obtain ⟨locs, Y, N, eT, O, K, hx, hby, hml, hret, hlk, hown, hnm, hZ⟩ := X
  subst hp
  exact Go.go (fun t q => XS.astoreN Y.here hx rfl (hb hby hd) rfl hv hl q) k
theorem o_astore {k : Nat} {v : Value} {l' : Array Slot} (X : Here p l e R s m args below meth c Z bytes maxL ret own nm h0 n0 ws T h cells slots) (hd : decode bytes pc = .ok (.astore k, 2)) (hp : pc + 2 = pc') (hv : v.isRef = true) (hl : storeLocals Ls k v = some l')
    (k : Go p.tables e below P (T.setTop (mkF m pc' l' st))) : Go p.tables e below P (T.setTop (mkF m pc Ls (v :: st))) := by
  obtain ⟨locs, Y, N, eT, O, K, hx, hby, hml, hret, hlk, hown, hnm, hZ⟩ := X
  subst hp
  exact Go.go (fun t q => XS.astore Y.here hx rfl (hb hby hd) rfl hv hl q) k
theorem o_iconst {i : Int} {v : Int32} (X : Here p l e R s m args below meth c Z bytes maxL ret own nm h0 n0 ws T h cells slots) (hd : decode bytes pc = .ok (.iconst i, 1)) (hp : pc + 1 = pc') (hv : Int32.ofInt i = v)
    (k : Go p.tables e below P (T.setTop (mkF m pc' Ls (.int v :: st)))) : Go p.tables e below P (T.setTop (mkF m pc Ls st)) := by
  obtain ⟨locs, Y, N, eT, O, K, hx, hby, hml, hret, hlk, hown, hnm, hZ⟩ := X
  subst hp hv
  exact Go.go (fun t q => XS.iconst Y.here hx rfl (hb hby hd) q) k
theorem o_bipush {i : Int} {v : Int32} (X : Here p l e R s m args below meth c Z bytes maxL ret own nm h0 n0 ws T h cells slots) (hd : decode bytes pc = .ok (.bipush i, 2)) (hp : pc + 2 = pc') (hv : (Int8.ofInt i).toInt32 = v)
    (k : Go p.tables e below P (T.setTop (mkF m pc' Ls (.int v :: st)))) : Go p.tables e below P (T.setTop (mkF m pc Ls st)) := by
  obtain ⟨locs, Y, N, eT, O, K, hx, hby, hml, hret, hlk, hown, hnm, hZ⟩ := X
  subst hp hv
  exact Go.go (fun t q => XS.bipush Y.here hx rfl (hb hby hd) q) k
theorem o_sipush {i : Int} {v : Int32} (X : Here p l e R s m args below meth c Z bytes maxL ret own nm h0 n0 ws T h cells slots) (hd : decode bytes pc = .ok (.sipush i, 3)) (hp : pc + 3 = pc') (hv : (Int16.ofInt i).toInt32 = v)
    (k : Go p.tables e below P (T.setTop (mkF m pc' Ls (.int v :: st)))) : Go p.tables e below P (T.setTop (mkF m pc Ls st)) := by
  obtain ⟨locs, Y, N, eT, O, K, hx, hby, hml, hret, hlk, hown, hnm, hZ⟩ := X
  subst hp hv
  exact Go.go (fun t q => XS.sipush Y.here hx rfl (hb hby hd) q) k
theorem o_lconst {i : Fin 2} {v : Int64} (X : Here p l e R s m args below meth c Z bytes maxL ret own nm h0 n0 ws T h cells slots) (hd : decode bytes pc = .ok (.lconst i, 1)) (hp : pc + 1 = pc') (hv : Int64.ofNat i = v)
    (k : Go p.tables e below P (T.setTop (mkF m pc' Ls (.long v :: st)))) : Go p.tables e below P (T.setTop (mkF m pc Ls st)) := by
  obtain ⟨locs, Y, N, eT, O, K, hx, hby, hml, hret, hlk, hown, hnm, hZ⟩ := X
  subst hp hv
  exact Go.go (fun t q => XS.lconst Y.here hx rfl (hb hby hd) q) k
theorem o_aconstNull  (X : Here p l e R s m args below meth c Z bytes maxL ret own nm h0 n0 ws T h cells slots) (hd : decode bytes pc = .ok (.aconst_null, 1)) (hp : pc + 1 = pc') 
    (k : Go p.tables e below P (T.setTop (mkF m pc' Ls (.null :: st)))) : Go p.tables e below P (T.setTop (mkF m pc Ls st)) := by
  obtain ⟨locs, Y, N, eT, O, K, hx, hby, hml, hret, hlk, hown, hnm, hZ⟩ := X
  subst hp
  exact Go.go (fun t q => XS.aconstNull Y.here hx rfl (hb hby hd)  q) k
theorem o_iadd {x y : Int32} {v : Int32} (X : Here p l e R s m args below meth c Z bytes maxL ret own nm h0 n0 ws T h cells slots) (hd : decode bytes pc = .ok (.iadd, 1)) (hp : pc + 1 = pc')  (hv : x + y = v)
    (k : Go p.tables e below P (T.setTop (mkF m pc' Ls (.int v :: st)))) : Go p.tables e below P (T.setTop (mkF m pc Ls (.int y :: .int x :: st))) := by
  obtain ⟨locs, Y, N, eT, O, K, hx, hby, hml, hret, hlk, hown, hnm, hZ⟩ := X
  subst hp hv
  exact Go.go (fun t q => XS.iadd Y.here hx rfl (hb hby hd) rfl q) k
theorem o_isub {x y : Int32} {v : Int32} (X : Here p l e R s m args below meth c Z bytes maxL ret own nm h0 n0 ws T h cells slots) (hd : decode bytes pc = .ok (.isub, 1)) (hp : pc + 1 = pc')  (hv : x - y = v)
    (k : Go p.tables e below P (T.setTop (mkF m pc' Ls (.int v :: st)))) : Go p.tables e below P (T.setTop (mkF m pc Ls (.int y :: .int x :: st))) := by
  obtain ⟨locs, Y, N, eT, O, K, hx, hby, hml, hret, hlk, hown, hnm, hZ⟩ := X
  subst hp hv
  exact Go.go (fun t q => XS.isub Y.here hx rfl (hb hby hd) rfl q) k
theorem o_imul {x y : Int32} {v : Int32} (X : Here p l e R s m args below meth c Z bytes maxL ret own nm h0 n0 ws T h cells slots) (hd : decode bytes pc = .ok (.imul, 1)) (hp : pc + 1 = pc')  (hv : x * y = v)
    (k : Go p.tables e below P (T.setTop (mkF m pc' Ls (.int v :: st)))) : Go p.tables e below P (T.setTop (mkF m pc Ls (.int y :: .int x :: st))) := by
  obtain ⟨locs, Y, N, eT, O, K, hx, hby, hml, hret, hlk, hown, hnm, hZ⟩ := X
  subst hp hv
  exact Go.go (fun t q => XS.imul Y.here hx rfl (hb hby hd) rfl q) k
theorem o_iand {x y : Int32} {v : Int32} (X : Here p l e R s m args below meth c Z bytes maxL ret own nm h0 n0 ws T h cells slots) (hd : decode bytes pc = .ok (.iand, 1)) (hp : pc + 1 = pc')  (hv : x &&& y = v)
    (k : Go p.tables e below P (T.setTop (mkF m pc' Ls (.int v :: st)))) : Go p.tables e below P (T.setTop (mkF m pc Ls (.int y :: .int x :: st))) := by
  obtain ⟨locs, Y, N, eT, O, K, hx, hby, hml, hret, hlk, hown, hnm, hZ⟩ := X
  subst hp hv
  exact Go.go (fun t q => XS.iand Y.here hx rfl (hb hby hd) rfl q) k
theorem o_ior {x y : Int32} {v : Int32} (X : Here p l e R s m args below meth c Z bytes maxL ret own nm h0 n0 ws T h cells slots) (hd : decode bytes pc = .ok (.ior, 1)) (hp : pc + 1 = pc')  (hv : x ||| y = v)
    (k : Go p.tables e below P (T.setTop (mkF m pc' Ls (.int v :: st)))) : Go p.tables e below P (T.setTop (mkF m pc Ls (.int y :: .int x :: st))) := by
  obtain ⟨locs, Y, N, eT, O, K, hx, hby, hml, hret, hlk, hown, hnm, hZ⟩ := X
  subst hp hv
  exact Go.go (fun t q => XS.ior Y.here hx rfl (hb hby hd) rfl q) k
theorem o_ixor {x y : Int32} {v : Int32} (X : Here p l e R s m args below meth c Z bytes maxL ret own nm h0 n0 ws T h cells slots) (hd : decode bytes pc = .ok (.ixor, 1)) (hp : pc + 1 = pc')  (hv : x ^^^ y = v)
    (k : Go p.tables e below P (T.setTop (mkF m pc' Ls (.int v :: st)))) : Go p.tables e below P (T.setTop (mkF m pc Ls (.int y :: .int x :: st))) := by
  obtain ⟨locs, Y, N, eT, O, K, hx, hby, hml, hret, hlk, hown, hnm, hZ⟩ := X
  subst hp hv
  exact Go.go (fun t q => XS.ixor Y.here hx rfl (hb hby hd) rfl q) k
theorem o_ishl {x y : Int32} {v : Int32} (X : Here p l e R s m args below meth c Z bytes maxL ret own nm h0 n0 ws T h cells slots) (hd : decode bytes pc = .ok (.ishl, 1)) (hp : pc + 1 = pc')  (hv : x <<< (y &&& 31) = v)
    (k : Go p.tables e below P (T.setTop (mkF m pc' Ls (.int v :: st)))) : Go p.tables e below P (T.setTop (mkF m pc Ls (.int y :: .int x :: st))) := by
  obtain ⟨locs, Y, N, eT, O, K, hx, hby, hml, hret, hlk, hown, hnm, hZ⟩ := X
  subst hp hv
  exact Go.go (fun t q => XS.ishl Y.here hx rfl (hb hby hd) rfl q) k
theorem o_ishr {x y : Int32} {v : Int32} (X : Here p l e R s m args below meth c Z bytes maxL ret own nm h0 n0 ws T h cells slots) (hd : decode bytes pc = .ok (.ishr, 1)) (hp : pc + 1 = pc')  (hv : x >>> (y &&& 31) = v)
    (k : Go p.tables e below P (T.setTop (mkF m pc' Ls (.int v :: st)))) : Go p.tables e below P (T.setTop (mkF m pc Ls (.int y :: .int x :: st))) := by
  obtain ⟨locs, Y, N, eT, O, K, hx, hby, hml, hret, hlk, hown, hnm, hZ⟩ := X
  subst hp hv
  exact Go.go (fun t q => XS.ishr Y.here hx rfl (hb hby hd) rfl q) k
theorem o_iushr {x y : Int32} {v : Int32} (X : Here p l e R s m args below meth c Z bytes maxL ret own nm h0 n0 ws T h cells slots) (hd : decode bytes pc = .ok (.iushr, 1)) (hp : pc + 1 = pc')  (hv : (x.toUInt32 >>> (y &&& 31).toUInt32).toInt32 = v)
    (k : Go p.tables e below P (T.setTop (mkF m pc' Ls (.int v :: st)))) : Go p.tables e below P (T.setTop (mkF m pc Ls (.int y :: .int x :: st))) := by
  obtain ⟨locs, Y, N, eT, O, K, hx, hby, hml, hret, hlk, hown, hnm, hZ⟩ := X
  subst hp hv
  exact Go.go (fun t q => XS.iushr Y.here hx rfl (hb hby hd) rfl q) k
theorem o_ladd {x y : Int64} {v : Int64} (X : Here p l e R s m args below meth c Z bytes maxL ret own nm h0 n0 ws T h cells slots) (hd : decode bytes pc = .ok (.ladd, 1)) (hp : pc + 1 = pc')  (hv : x + y = v)
    (k : Go p.tables e below P (T.setTop (mkF m pc' Ls (.long v :: st)))) : Go p.tables e below P (T.setTop (mkF m pc Ls (.long y :: .long x :: st))) := by
  obtain ⟨locs, Y, N, eT, O, K, hx, hby, hml, hret, hlk, hown, hnm, hZ⟩ := X
  subst hp hv
  exact Go.go (fun t q => XS.ladd Y.here hx rfl (hb hby hd) rfl q) k
theorem o_lsub {x y : Int64} {v : Int64} (X : Here p l e R s m args below meth c Z bytes maxL ret own nm h0 n0 ws T h cells slots) (hd : decode bytes pc = .ok (.lsub, 1)) (hp : pc + 1 = pc')  (hv : x - y = v)
    (k : Go p.tables e below P (T.setTop (mkF m pc' Ls (.long v :: st)))) : Go p.tables e below P (T.setTop (mkF m pc Ls (.long y :: .long x :: st))) := by
  obtain ⟨locs, Y, N, eT, O, K, hx, hby, hml, hret, hlk, hown, hnm, hZ⟩ := X
  subst hp hv
  exact Go.go (fun t q => XS.lsub Y.here hx rfl (hb hby hd) rfl q) k
theorem o_lmul {x y : Int64} {v : Int64} (X : Here p l e R s m args below meth c Z bytes maxL ret own nm h0 n0 ws T h cells slots) (hd : decode bytes pc = .ok (.lmul, 1)) (hp : pc + 1 = pc')  (hv : x * y = v)
    (k : Go p.tables e below P (T.setTop (mkF m pc' Ls (.long v :: st)))) : Go p.tables e below P (T.setTop (mkF m pc Ls (.long y :: .long x :: st))) := by
  obtain ⟨locs, Y, N, eT, O, K, hx, hby, hml, hret, hlk, hown, hnm, hZ⟩ := X
  subst hp hv
  exact Go.go (fun t q => XS.lmul Y.here hx rfl (hb hby hd) rfl q) k
theorem o_land {x y : Int64} {v : Int64} (X : Here p l e R s m args below meth c Z bytes maxL ret own nm h0 n0 ws T h cells slots) (hd : decode bytes pc = .ok (.land, 1)) (hp : pc + 1 = pc')  (hv : x &&& y = v)
    (k : Go p.tables e below P (T.setTop (mkF m pc' Ls (.long v :: st)))) : Go p.tables e below P (T.setTop (mkF m pc Ls (.long y :: .long x :: st))) := by
  obtain ⟨locs, Y, N, eT, O, K, hx, hby, hml, hret, hlk, hown, hnm, hZ⟩ := X
  subst hp hv
  exact Go.go (fun t q => XS.land Y.here hx rfl (hb hby hd) rfl q) k
theorem o_lor {x y : Int64} {v : Int64} (X : Here p l e R s m args below meth c Z bytes maxL ret own nm h0 n0 ws T h cells slots) (hd : decode bytes pc = .ok (.lor, 1)) (hp : pc + 1 = pc')  (hv : x ||| y = v)
    (k : Go p.tables e below P (T.setTop (mkF m pc' Ls (.long v :: st)))) : Go p.tables e below P (T.setTop (mkF m pc Ls (.long y :: .long x :: st))) := by
  obtain ⟨locs, Y, N, eT, O, K, hx, hby, hml, hret, hlk, hown, hnm, hZ⟩ := X
  subst hp hv
  exact Go.go (fun t q => XS.lor Y.here hx rfl (hb hby hd) rfl q) k
theorem o_lxor {x y : Int64} {v : Int64} (X : Here p l e R s m args below meth c Z bytes maxL ret own nm h0 n0 ws T h cells slots) (hd : decode bytes pc = .ok (.lxor, 1)) (hp : pc + 1 = pc')  (hv : x ^^^ y = v)
    (k : Go p.tables e below P (T.setTop (mkF m pc' Ls (.long v :: st)))) : Go p.tables e below P (T.setTop (mkF m pc Ls (.long y :: .long x :: st))) := by
  obtain ⟨locs, Y, N, eT, O, K, hx, hby, hml, hret, hlk, hown, hnm, hZ⟩ := X
  subst hp hv
  exact Go.go (fun t q => XS.lxor Y.here hx rfl (hb hby hd) rfl q) k
theorem o_lshl {x : Int64} {y : Int32} {v : Int64} (X : Here p l e R s m args below meth c Z bytes maxL ret own nm h0 n0 ws T h cells slots) (hd : decode bytes pc = .ok (.lshl, 1)) (hp : pc + 1 = pc')  (hv : x <<< (y &&& 0x3f).toInt64 = v)
    (k : Go p.tables e below P (T.setTop (mkF m pc' Ls (.long v :: st)))) : Go p.tables e below P (T.setTop (mkF m pc Ls (.int y :: .long x :: st))) := by
  obtain ⟨locs, Y, N, eT, O, K, hx, hby, hml, hret, hlk, hown, hnm, hZ⟩ := X
  subst hp hv
  exact Go.go (fun t q => XS.lshl Y.here hx rfl (hb hby hd) rfl q) k
theorem o_lshr {x : Int64} {y : Int32} {v : Int64} (X : Here p l e R s m args below meth c Z bytes maxL ret own nm h0 n0 ws T h cells slots) (hd : decode bytes pc = .ok (.lshr, 1)) (hp : pc + 1 = pc')  (hv : x >>> (y &&& 0x3f).toInt64 = v)
    (k : Go p.tables e below P (T.setTop (mkF m pc' Ls (.long v :: st)))) : Go p.tables e below P (T.setTop (mkF m pc Ls (.int y :: .long x :: st))) := by
  obtain ⟨locs, Y, N, eT, O, K, hx, hby, hml, hret, hlk, hown, hnm, hZ⟩ := X
  subst hp hv
  exact Go.go (fun t q => XS.lshr Y.here hx rfl (hb hby hd) rfl q) k
theorem o_lushr {x : Int64} {y : Int32} {v : Int64} (X : Here p l e R s m args below meth c Z bytes maxL ret own nm h0 n0 ws T h cells slots) (hd : decode bytes pc = .ok (.lushr, 1)) (hp : pc + 1 = pc')  (hv : (x.toUInt64 >>> (y &&& 0x3f).toInt64.toUInt64).toInt64 = v)
    (k : Go p.tables e below P (T.setTop (mkF m pc' Ls (.long v :: st)))) : Go p.tables e below P (T.setTop (mkF m pc Ls (.int y :: .long x :: st))) := by
  obtain ⟨locs, Y, N, eT, O, K, hx, hby, hml, hret, hlk, hown, hnm, hZ⟩ := X
  subst hp hv
  exact Go.go (fun t q => XS.lushr Y.here hx rfl (hb hby hd) rfl q) k
theorem o_lcmp {x y : Int64} {v : Int32} (X : Here p l e R s m args below meth c Z bytes maxL ret own nm h0 n0 ws T h cells slots) (hd : decode bytes pc = .ok (.lcmp, 1)) (hp : pc + 1 = pc')  (hv : lcmpW x y = v)
    (k : Go p.tables e below P (T.setTop (mkF m pc' Ls (.int v :: st)))) : Go p.tables e below P (T.setTop (mkF m pc Ls (.long y :: .long x :: st))) := by
  obtain ⟨locs, Y, N, eT, O, K, hx, hby, hml, hret, hlk, hown, hnm, hZ⟩ := X
  subst hp hv
  exact Go.go (fun t q => XS.lcmp Y.here hx rfl (hb hby hd) rfl q) k
theorem o_idiv {x y : Int32} {v : Int32} (X : Here p l e R s m args below meth c Z bytes maxL ret own nm h0 n0 ws T h cells slots) (hd : decode bytes pc = .ok (.idiv, 1)) (hp : pc + 1 = pc') (hy : y ≠ 0) (hv : x / y = v)
    (k : Go p.tables e below P (T.setTop (mkF m pc' Ls (.int v :: st)))) : Go p.tables e below P (T.setTop (mkF m pc Ls (.int y :: .int x :: st))) := by
  obtain ⟨locs, Y, N, eT, O, K, hx, hby, hml, hret, hlk, hown, hnm, hZ⟩ := X
  subst hp hv
  exact Go.go (fun t q => XS.idiv Y.here hx rfl (hb hby hd) rfl hy q) k
theorem o_irem {x y : Int32} {v : Int32} (X : Here p l e R s m args below meth c Z bytes maxL ret own nm h0 n0 ws T h cells slots) (hd : decode bytes pc = .ok (.irem, 1)) (hp : pc + 1 = pc') (hy : y ≠ 0) (hv : x % y = v)
    (k : Go p.tables e below P (T.setTop (mkF m pc' Ls (.int v :: st)))) : Go p.tables e below P (T.setTop (mkF m pc Ls (.int y :: .int x :: st))) := by
  obtain ⟨locs, Y, N, eT, O, K, hx, hby, hml, hret, hlk, hown, hnm, hZ⟩ := X
  subst hp hv
  exact Go.go (fun t q => iremM Y hx rfl (hb hby hd) rfl hy q) k
theorem o_ineg {x : Int32} {v : Int32} (X : Here p l e R s m args below meth c Z bytes maxL ret own nm h0 n0 ws T h cells slots) (hd : decode bytes pc = .ok (.ineg, 1)) (hp : pc + 1 = pc')  (hv : -x = v)
    (k : Go p.tables e below P (T.setTop (mkF m pc' Ls (.int v :: st)))) : Go p.tables e below P (T.setTop (mkF m pc Ls (.int x :: st))) := by
  obtain ⟨locs, Y, N, eT, O, K, hx, hby, hml, hret, hlk, hown, hnm, hZ⟩ := X
  subst hp hv
  exact Go.go (fun t q => XS.ineg Y.here hx rfl (hb hby hd) rfl q) k
theorem o_i2b {x : Int32} {v : Int32} (X : Here p l e R s m args below meth c Z bytes maxL ret own nm h0 n0 ws T h cells slots) (hd : decode bytes pc = .ok (.i2b, 1)) (hp : pc + 1 = pc')  (hv : x.toInt8.toInt32 = v)
    (k : Go p.tables e below P (T.setTop (mkF m pc' Ls (.int v :: st)))) : Go p.tables e below P (T.setTop (mkF m pc Ls (.int x :: st))) := by
  obtain ⟨locs, Y, N, eT, O, K, hx, hby, hml, hret, hlk, hown, hnm, hZ⟩ := X
  subst hp hv
  exact Go.go (fun t q => XS.i2b Y.here hx rfl (hb hby hd) rfl q) k
theorem o_i2c {x : Int32} {v : Int32} (X : Here p l e R s m args below meth c Z bytes maxL ret own nm h0 n0 ws T h cells slots) (hd : decode bytes pc = .ok (.i2c, 1)) (hp : pc + 1 = pc')  (hv : x.toUInt32.toUInt16.toUInt32.toInt32 = v)
    (k : Go p.tables e below P (T.setTop (mkF m pc' Ls (.int v :: st)))) : Go p.tables e below P (T.setTop (mkF m pc Ls (.int x :: st))) := by
  obtain ⟨locs, Y, N, eT, O, K, hx, hby, hml, hret, hlk, hown, hnm, hZ⟩ := X
  subst hp hv
  exact Go.go (fun t q => XS.i2c Y.here hx rfl (hb hby hd) rfl q) k
theorem o_i2s {x : Int32} {v : Int32} (X : Here p l e R s m args below meth c Z bytes maxL ret own nm h0 n0 ws T h cells slots) (hd : decode bytes pc = .ok (.i2s, 1)) (hp : pc + 1 = pc')  (hv : x.toInt16.toInt32 = v)
    (k : Go p.tables e below P (T.setTop (mkF m pc' Ls (.int v :: st)))) : Go p.tables e below P (T.setTop (mkF m pc Ls (.int x :: st))) := by
  obtain ⟨locs, Y, N, eT, O, K, hx, hby, hml, hret, hlk, hown, hnm, hZ⟩ := X
  subst hp hv
  exact Go.go (fun t q => XS.i2s Y.here hx rfl (hb hby hd) rfl q) k
theorem o_i2l {x : Int32} {v : Int64} (X : Here p l e R s m args below meth c Z bytes maxL ret own nm h0 n0 ws T h cells slots) (hd : decode bytes pc = .ok (.i2l, 1)) (hp : pc + 1 = pc')  (hv : x.toInt64 = v)
    (k : Go p.tables e below P (T.setTop (mkF m pc' Ls (.long v :: st)))) : Go p.tables e below P (T.setTop (mkF m pc Ls (.int x :: st))) := by
  obtain ⟨locs, Y, N, eT, O, K, hx, hby, hml, hret, hlk, hown, hnm, hZ⟩ := X
  subst hp hv
  exact Go.go (fun t q => XS.i2l Y.here hx rfl (hb hby hd) rfl q) k
theorem o_l2i {x : Int64} {v : Int32} (X : Here p l e R s m args below meth c Z bytes maxL ret own nm h0 n0 ws T h cells slots) (hd : decode bytes pc = .ok (.l2i, 1)) (hp : pc + 1 = pc')  (hv : x.toInt32 = v)
    (k : Go p.tables e below P (T.setTop (mkF m pc' Ls (.int v :: st)))) : Go p.tables e below P (T.setTop (mkF m pc Ls (.long x :: st))) := by
  obtain ⟨locs, Y, N, eT, O, K, hx, hby, hml, hret, hlk, hown, hnm, hZ⟩ := X
  subst hp hv
  exact Go.go (fun t q => XS.l2i Y.here hx rfl (hb hby hd) rfl q) k
theorem o_iinc {k : Nat} {i : Int} {x y : Int32} {l' : Array Slot} (X : Here p l e R s m args below meth c Z bytes maxL ret own nm h0 n0 ws T h cells slots) (hd : decode bytes pc = .ok (.iinc k i, 3)) (hp : pc + 3 = pc') (hl : Ls[k]? = some (.val (.int x))) (hy : x + Int32.ofInt i = y) (hl' : storeLocals Ls k (.int y) = some l')
    (k : Go p.tables e below P (T.setTop (mkF m pc' l' st))) : Go p.tables e below P (T.setTop (mkF m pc Ls st)) := by
  obtain ⟨locs, Y, N, eT, O, K, hx, hby, hml, hret, hlk, hown, hnm, hZ⟩ := X
  subst hp
  exact Go.go (fun t q => XS.iinc Y.here hx rfl (hb hby hd) hl (hy ▸ hl') q) k
theorem o_dup {x : Value} (X : Here p l e R s m args below meth c Z bytes maxL ret own nm h0 n0 ws T h cells slots) (hd : decode bytes pc = .ok (.dup, 1)) (hp : pc + 1 = pc') (hc : x.category = 1)
    (k : Go p.tables e below P (T.setTop (mkF m pc' Ls (x :: x :: st)))) : Go p.tables e below P (T.setTop (mkF m pc Ls (x :: st))) := by
  obtain ⟨locs, Y, N, eT, O, K, hx, hby, hml, hret, hlk, hown, hnm, hZ⟩ := X
  subst hp
  exact Go.go (fun t q => XS.dup Y.here hx rfl (hb hby hd) rfl hc q) k
theorem o_pop {x : Value} (X : Here p l e R s m args below meth c Z bytes maxL ret own nm h0 n0 ws T h cells slots) (hd : decode bytes pc = .ok (.pop, 1)) (hp : pc + 1 = pc') (hc : x.category = 1)
    (k : Go p.tables e below P (T.setTop (mkF m pc' Ls st))) : Go p.tables e below P (T.setTop (mkF m pc Ls (x :: st))) := by
  obtain ⟨locs, Y, N, eT, O, K, hx, hby, hml, hret, hlk, hown, hnm, hZ⟩ := X
  subst hp
  exact Go.go (fun t q => XS.pop Y.here hx rfl (hb hby hd) rfl hc q) k
theorem o_dupX1 {x y : Value} (X : Here p l e R s m args below meth c Z bytes maxL ret own nm h0 n0 ws T h cells slots) (hd : decode bytes pc = .ok (.dup_x1, 1)) (hp : pc + 1 = pc') (hc : x.category = 1) (hc' : y.category = 1)
    (k : Go p.tables e below P (T.setTop (mkF m pc' Ls (x :: y :: x :: st)))) : Go p.tables e below P (T.setTop (mkF m pc Ls (x :: y :: st))) := by
  obtain ⟨locs, Y, N, eT, O, K, hx, hby, hml, hret, hlk, hown, hnm, hZ⟩ := X
  subst hp
  exact Go.go (fun t q => XS.dupX1 Y.here hx rfl (hb hby hd) rfl hc hc' q) k
theorem o_dup2 {x y : Value} (X : Here p l e R s m args below meth c Z bytes maxL ret own nm h0 n0 ws T h cells slots) (hd : decode bytes pc = .ok (.dup2, 1)) (hp : pc + 1 = pc') (hc : x.category = 1) (hc' : y.category = 1)
    (k : Go p.tables e below P (T.setTop (mkF m pc' Ls (x :: y :: x :: y :: st)))) : Go p.tables e below P (T.setTop (mkF m pc Ls (x :: y :: st))) := by
  obtain ⟨locs, Y, N, eT, O, K, hx, hby, hml, hret, hlk, hown, hnm, hZ⟩ := X
  subst hp
  exact Go.go (fun t q => Jvm.Free.XT.dup2 Y.here hx rfl (hb hby hd) rfl hc hc' q) k
theorem o_goto  {o : Int} (X : Here p l e R s m args below meth c Z bytes maxL ret own nm h0 n0 ws T h cells slots) (hd : decode bytes pc = .ok (.goto o, 3)) (ho : 0 ≤ (pc : Int) + o) (hp : ((pc : Int) + o).toNat = pc') 
    (k : Go p.tables e below P (T.setTop (mkF m pc' Ls st))) : Go p.tables e below P (T.setTop (mkF m pc Ls st)) := by
  obtain ⟨locs, Y, N, eT, O, K, hx, hby, hml, hret, hlk, hown, hnm, hZ⟩ := X
  exact Go.go (fun t q => XS.goto Y.here hx rfl (pc0 := pc) (pc' := pc') rfl (hb hby hd)  ho hp q) k
theorem o_ifYes {cd : ClassFile.Cond} {x : Int32} {o : Int} (X : Here p l e R s m args below meth c Z bytes maxL ret own nm h0 n0 ws T h cells slots) (hd : decode bytes pc = .ok (.ifCond cd o, 3)) (ho : 0 ≤ (pc : Int) + o) (hp : ((pc : Int) + o).toNat = pc') (hc : ifCond.holds cd x = true)
    (k : Go p.tables e below P (T.setTop (mkF m pc' Ls st))) : Go p.tables e below P (T.setTop (mkF m pc Ls (.int x :: st))) := by
  obtain ⟨locs, Y, N, eT, O, K, hx, hby, hml, hret, hlk, hown, hnm, hZ⟩ := X
  exact Go.go (fun t q => XS.ifYes Y.here hx rfl (pc0 := pc) (pc' := pc') rfl (hb hby hd) rfl hc ho hp q) k
theorem o_ifNo {cd : ClassFile.Cond} {x : Int32} {o : Int} (X : Here p l e R s m args below meth c Z bytes maxL ret own nm h0 n0 ws T h cells slots) (hd : decode bytes pc = .ok (.ifCond cd o, 3)) (hp : pc + 3 = pc') (hc : ifCond.holds cd x = false)
    (k : Go p.tables e below P (T.setTop (mkF m pc' Ls st))) : Go p.tables e below P (T.setTop (mkF m pc Ls (.int x :: st))) := by
  obtain ⟨locs, Y, N, eT, O, K, hx, hby, hml, hret, hlk, hown, hnm, hZ⟩ := X
  subst hp
  exact Go.go (fun t q => XS.ifNo Y.here hx rfl (hb hby hd) rfl hc q) k
theorem o_icmpYes {cd : ClassFile.Cond} {x y : Int32} {o : Int} (X : Here p l e R s m args below meth c Z bytes maxL ret own nm h0 n0 ws T h cells slots) (hd : decode bytes pc = .ok (.if_icmp cd o, 3)) (ho : 0 ≤ (pc : Int) + o) (hp : ((pc : Int) + o).toNat = pc') (hc : if_icmp.holds cd x y = true)
    (k : Go p.tables e below P (T.setTop (mkF m pc' Ls st))) : Go p.tables e below P (T.setTop (mkF m pc Ls (.int y :: .int x :: st))) := by
  obtain ⟨locs, Y, N, eT, O, K, hx, hby, hml, hret, hlk, hown, hnm, hZ⟩ := X
  exact Go.go (fun t q => XS.icmpYes Y.here hx rfl (pc0 := pc) (pc' := pc') rfl (hb hby hd) rfl hc ho hp q) k
theorem o_icmpNo {cd : ClassFile.Cond} {x y : Int32} {o : Int} (X : Here p l e R s m args below meth c Z bytes maxL ret own nm h0 n0 ws T h cells slots) (hd : decode bytes pc = .ok (.if_icmp cd o, 3)) (hp : pc + 3 = pc') (hc : if_icmp.holds cd x y = false)
    (k : Go p.tables e below P (T.setTop (mkF m pc' Ls st))) : Go p.tables e below P (T.setTop (mkF m pc Ls (.int y :: .int x :: st))) := by
  obtain ⟨locs, Y, N, eT, O, K, hx, hby, hml, hret, hlk, hown, hnm, hZ⟩ := X
  subst hp
  exact Go.go (fun t q => XS.icmpNo Y.here hx rfl (hb hby hd) rfl hc q) k
theorem o_ifnullYes  {o : Int} (X : Here p l e R s m args below meth c Z bytes maxL ret own nm h0 n0 ws T h cells slots) (hd : decode bytes pc = .ok (.ifnull o, 3)) (ho : 0 ≤ (pc : Int) + o) (hp : ((pc : Int) + o).toNat = pc') 
    (k : Go p.tables e below P (T.setTop (mkF m pc' Ls st))) : Go p.tables e below P (T.setTop (mkF m pc Ls (.null :: st))) := by
  obtain ⟨locs, Y, N, eT, O, K, hx, hby, hml, hret, hlk, hown, hnm, hZ⟩ := X
  exact Go.go (fun t q => XS.ifnullYes Y.here hx rfl (pc0 := pc) (pc' := pc') rfl (hb hby hd) rfl  ho hp q) k
theorem o_ifnullNo {b : Addr} {o : Int} (X : Here p l e R s m args below meth c Z bytes maxL ret own nm h0 n0 ws T h cells slots) (hd : decode bytes pc = .ok (.ifnull o, 3)) (hp : pc + 3 = pc') 
    (k : Go p.tables e below P (T.setTop (mkF m pc' Ls st))) : Go p.tables e below P (T.setTop (mkF m pc Ls (.ref b :: st))) := by
  obtain ⟨locs, Y, N, eT, O, K, hx, hby, hml, hret, hlk, hown, hnm, hZ⟩ := X
  subst hp
  exact Go.go (fun t q => XS.ifnullNo Y.here hx rfl (hb hby hd) rfl  q) k
theorem o_ifnonnullYes {b : Addr} {o : Int} (X : Here p l e R s m args below meth c Z bytes maxL ret own nm h0 n0 ws T h cells slots) (hd : decode bytes pc = .ok (.ifnonnull o, 3)) (ho : 0 ≤ (pc : Int) + o) (hp : ((pc : Int) + o).toNat = pc') 
    (k : Go p.tables e below P (T.setTop (mkF m pc' Ls st))) : Go p.tables e below P (T.setTop (mkF m pc Ls (.ref b :: st))) := by
  obtain ⟨locs, Y, N, eT, O, K, hx, hby, hml, hret, hlk, hown, hnm, hZ⟩ := X
  exact Go.go (fun t q => XS.ifnonnullYes Y.here hx rfl (pc0 := pc) (pc' := pc') rfl (hb hby hd) rfl  ho hp q) k
theorem o_ifnonnullNo  {o : Int} (X : Here p l e R s m args below meth c Z bytes maxL ret own nm h0 n0 ws T h cells slots) (hd : decode bytes pc = .ok (.ifnonnull o, 3)) (hp : pc + 3 = pc') 
    (k : Go p.tables e below P (T.setTop (mkF m pc' Ls st))) : Go p.tables e below P (T.setTop (mkF m pc Ls (.null :: st))) := by
  obtain ⟨locs, Y, N, eT, O, K, hx, hby, hml, hret, hlk, hown, hnm, hZ⟩ := X
  subst hp
  exact Go.go (fun t q => XS.ifnonnullNo Y.here hx rfl (hb hby hd) rfl  q) k
theorem o_acmp {cd : ACond} {x y : Value} {o : Int} {same : Bool} (X : Here p l e R s m args below meth c Z bytes maxL ret own nm h0 n0 ws T h cells slots) (hd : decode bytes pc = .ok (.if_acmp cd o, 3)) (h1 : x.isRef = true) (h2 : y.isRef = true) (hq : decide (x = y) = same) (ho : 0 ≤ (pc : Int) + o) (hp : pc' = if acV cd same = true then ((pc : Int) + o).toNat else pc + 3)
    (k : Go p.tables e below P (T.setTop (mkF m pc' Ls st))) : Go p.tables e below P (T.setTop (mkF m pc Ls (y :: x :: st))) := by
  obtain ⟨locs, Y, N, eT, O, K, hx, hby, hml, hret, hlk, hown, hnm, hZ⟩ := X
  exact Go.go (fun t q => RoadKit.acmp (g := mkF m pc Ls (y :: x :: st)) Y hx rfl h1 h2 (pc0 := pc) (pc' := pc') rfl (hb hby hd) rfl hq ho hp q) k
theorem o_getF {R0 O n d : String} {index : Nat} {a : Addr} {v : Value} (X : Here p l e R s m args below meth c Z bytes maxL ret own nm h0 n0 ws T h cells slots) (w : (Cond.fieldLink own index R0 n d).before a0 Z = true) (via : Via Z R0 O n d) (F : Fld Z h a O n d v) (hd : decode bytes pc = .ok (.getfield index, 3)) (hp : pc + 3 = pc')
    (k : ∀ T', Here p l e R s m args below meth c Z bytes maxL ret own nm h0 n0 ws T' h cells slots → Go p.tables e below P (T'.setTop (mkF m pc' Ls (v :: st)))) : Go p.tables e below P (T.setTop (mkF m pc Ls (.ref a :: st))) := by
  obtain ⟨locs, Y, N, eT, O, K, hx, hby, hml, hret, hlk, hown, hnm, hZ⟩ := X
  subst hp
  obtain ⟨T', Y', e', st'⟩ := RoadKit.getF Y hx hZ hown (host := "") (Or.inl w) via eT F (g := mkF m pc Ls (.ref a :: st)) rfl rfl (hb hby hd)
  exact Go.go st' (k T' ⟨locs, Y', N, e', O, K, hx, hby, hml, hret, hlk, hown, hnm, hZ⟩)
theorem o_getFN {R0 O n d host : String} {index : Nat} {a : Addr} {v : Value} (X : Here p l e R s m args below meth c Z bytes maxL ret own nm h0 n0 ws T h cells slots) (w : (Cond.fieldLinkNest own index R0 n d host).before a0 Z = true) (via : Via Z R0 O n d) (F : Fld Z h a O n d v) (hd : decode bytes pc = .ok (.getfield index, 3)) (hp : pc + 3 = pc')
    (k : ∀ T', Here p l e R s m args below meth c Z bytes maxL ret own nm h0 n0 ws T' h cells slots → Go p.tables e below P (T'.setTop (mkF m pc' Ls (v :: st)))) : Go p.tables e below P (T.setTop (mkF m pc Ls (.ref a :: st))) := by
  obtain ⟨locs, Y, N, eT, O, K, hx, hby, hml, hret, hlk, hown, hnm, hZ⟩ := X
  subst hp
  obtain ⟨T', Y', e', st'⟩ := RoadKit.getF Y hx hZ hown (Or.inr w) via eT F (g := mkF m pc Ls (.ref a :: st)) rfl rfl (hb hby hd)
  exact Go.go st' (k T' ⟨locs, Y', N, e', O, K, hx, hby, hml, hret, hlk, hown, hnm, hZ⟩)
theorem o_getS {R0 O n d : String} {index : Nat} {v : Value} (X : Here p l e R s m args below meth c Z bytes maxL ret own nm h0 n0 ws T h cells slots) (w : (Cond.fieldLink own index R0 n d).before a0 Z = true) (via : Via Z R0 O n d) (F : Sta Z h O n d v) (hd : decode bytes pc = .ok (.getstatic index, 3)) (hp : pc + 3 = pc')
    (k : ∀ T', Here p l e R s m args below meth c Z bytes maxL ret own nm h0 n0 ws T' h cells slots → Go p.tables e below P (T'.setTop (mkF m pc' Ls (v :: st)))) : Go p.tables e below P (T.setTop (mkF m pc Ls st)) := by
  obtain ⟨locs, Y, N, eT, O, K, hx, hby, hml, hret, hlk, hown, hnm, hZ⟩ := X
  subst hp
  obtain ⟨T', Y', e', st'⟩ := getS2 Y hx hZ hown (host := "") (Or.inl w) via eT F (g := mkF m pc Ls st) rfl (hb hby hd)
  exact Go.go st' (k T' ⟨locs, Y', N, e', O, K, hx, hby, hml, hret, hlk, hown, hnm, hZ⟩)
theorem o_getSN {R0 O n d host : String} {index : Nat} {v : Value} (X : Here p l e R s m args below meth c Z bytes maxL ret own nm h0 n0 ws T h cells slots) (w : (Cond.fieldLinkNest own index R0 n d host).before a0 Z = true) (via : Via Z R0 O n d) (F : Sta Z h O n d v) (hd : decode bytes pc = .ok (.getstatic index, 3)) (hp : pc + 3 = pc')
    (k : ∀ T', Here p l e R s m args below meth c Z bytes maxL ret own nm h0 n0 ws T' h cells slots → Go p.tables e below P (T'.setTop (mkF m pc' Ls (v :: st)))) : Go p.tables e below P (T.setTop (mkF m pc Ls st)) := by
  obtain ⟨locs, Y, N, eT, O, K, hx, hby, hml, hret, hlk, hown, hnm, hZ⟩ := X
  subst hp
  obtain ⟨T', Y', e', st'⟩ := getS2 Y hx hZ hown (Or.inr w) via eT F (g := mkF m pc Ls st) rfl (hb hby hd)
  exact Go.go st' (k T' ⟨locs, Y', N, e', O, K, hx, hby, hml, hret, hlk, hown, hnm, hZ⟩)
theorem o_castY {K' : String} {index : Nat} {a : Addr} (X : Here p l e R s m args below meth c Z bytes maxL ret own nm h0 n0 ws T h cells slots) (w : (Cond.classLink own index K').before a0 Z = true) (F : Ins Z h a K' true) (hd : decode bytes pc = .ok (.checkcast index, 3)) (hp : pc + 3 = pc')
    (k : ∀ T', Here p l e R s m args below meth c Z bytes maxL ret own nm h0 n0 ws T' h cells slots → Go p.tables e below P (T'.setTop (mkF m pc' Ls (.ref a :: st)))) : Go p.tables e below P (T.setTop (mkF m pc Ls (.ref a :: st))) := by
  obtain ⟨locs, Y, N, eT, O, K, hx, hby, hml, hret, hlk, hown, hnm, hZ⟩ := X
  subst hp
  obtain ⟨T', Y', e', st'⟩ := RoadKit.castY Y hx hZ hown w eT F (g := mkF m pc Ls (.ref a :: st)) rfl rfl (hb hby hd)
  exact Go.go st' (k T' ⟨locs, Y', N, e', O, K, hx, hby, hml, hret, hlk, hown, hnm, hZ⟩)
theorem o_instY {K' : String} {index : Nat} {a : Addr} (X : Here p l e R s m args below meth c Z bytes maxL ret own nm h0 n0 ws T h cells slots) (w : (Cond.classLink own index K').before a0 Z = true) (F : Ins Z h a K' true) (hd : decode bytes pc = .ok (.instanceof index, 3)) (hp : pc + 3 = pc')
    (k : ∀ T', Here p l e R s m args below meth c Z bytes maxL ret own nm h0 n0 ws T' h cells slots → Go p.tables e below P (T'.setTop (mkF m pc' Ls (.int 1 :: st)))) : Go p.tables e below P (T.setTop (mkF m pc Ls (.ref a :: st))) := by
  obtain ⟨locs, Y, N, eT, O, K, hx, hby, hml, hret, hlk, hown, hnm, hZ⟩ := X
  subst hp
  obtain ⟨T', Y', e', st'⟩ := RoadKit.instY Y hx hZ hown w eT F (g := mkF m pc Ls (.ref a :: st)) rfl rfl (hb hby hd)
  exact Go.go st' (k T' ⟨locs, Y', N, e', O, K, hx, hby, hml, hret, hlk, hown, hnm, hZ⟩)
theorem o_instNo {K' C : String} {index : Nat} {a : Addr} (X : Here p l e R s m args below meth c Z bytes maxL ret own nm h0 n0 ws T h cells slots) (w : (Cond.classLink own index K').before a0 Z = true) (E : Exa Z h a C) (F : ∃ c t, Z.vm.findClass C = some c ∧ Z.vm.findClass K' = some t ∧ Z.vm.assignable c t = false) (hd : decode bytes pc = .ok (.instanceof index, 3)) (hp : pc + 3 = pc')
    (k : ∀ T', Here p l e R s m args below meth c Z bytes maxL ret own nm h0 n0 ws T' h cells slots → Go p.tables e below P (T'.setTop (mkF m pc' Ls (.int 0 :: st)))) : Go p.tables e below P (T.setTop (mkF m pc Ls (.ref a :: st))) := by
  obtain ⟨locs, Y, N, eT, O, K, hx, hby, hml, hret, hlk, hown, hnm, hZ⟩ := X
  subst hp
  obtain ⟨T', Y', e', st'⟩ := RoadKit.instNo Y hx hZ hown w eT E F (g := mkF m pc Ls (.ref a :: st)) rfl rfl (hb hby hd)
  exact Go.go st' (k T' ⟨locs, Y', N, e', O, K, hx, hby, hml, hret, hlk, hown, hnm, hZ⟩)
theorem o_initO {idx W : Nat} {a : Addr} (X : Here p l e R s m args below meth c Z bytes maxL ret own nm h0 n0 ws T h cells slots) (w1 : (Cond.methodLink own idx Lib.objectInit).before a0 Z = true) (w2 : (Cond.instanceMethod Lib.objectInit).before a0 Z = true) (w3 : (Cond.code Lib.objectInit ⟨#[0xb1]⟩ 1 none).before a0 Z = true) (hsz : Ls.size = maxL) (hf : 1 ≤ R.frames) (hW : (st.map fun v => v.category).sum ≤ W) (hl : W + 12 ≤ R.locals) (hd : decode bytes pc = .ok (.invokespecial idx, 3)) (hp : pc + 3 = pc')
    (k : ∀ T', Here p l e R s m args below meth c Z bytes maxL ret own nm h0 n0 ws T' h cells slots → Go p.tables e below P (T'.setTop (mkF m pc' Ls st))) : Go p.tables e below P (T.setTop (mkF m pc Ls (.ref a :: st))) := by
  obtain ⟨locs, Y, N, eT, O, K, hx, hby, hml, hret, hlk, hown, hnm, hZ⟩ := X
  subst hp
  obtain ⟨T', Y', e', st'⟩ := RoadKit.initO Y hx hZ hown w1 w2 w3 eT (g := mkF m pc Ls (.ref a :: st)) rfl (by rw [hml]; exact hsz) rfl (hb hby hd) hf (W := W) (by show 2 * 0 + _ ≤ _; omega) hl
  exact Go.go st' (k T' ⟨locs, Y', N, e', O, K, hx, hby, hml, hret, hlk, hown, hnm, hZ⟩)
theorem o_instNull {index : Nat} (X : Here p l e R s m args below meth c Z bytes maxL ret own nm h0 n0 ws T h cells slots) (hd : decode bytes pc = .ok (.instanceof index, 3)) (hp : pc + 3 = pc')
    (k : Go p.tables e below P (T.setTop (mkF m pc' Ls (.int 0 :: st)))) : Go p.tables e below P (T.setTop (mkF m pc Ls (.null :: st))) := by
  obtain ⟨locs, Y, N, eT, O, K, hx, hby, hml, hret, hlk, hown, hnm, hZ⟩ := X
  subst hp
  exact Go.go (Y.instanceofNull hx (g := mkF m pc Ls (.null :: st)) rfl rfl (hb hby hd)) k
theorem o_castNull {index : Nat} (X : Here p l e R s m args below meth c Z bytes maxL ret own nm h0 n0 ws T h cells slots) (hd : decode bytes pc = .ok (.checkcast index, 3)) (hp : pc + 3 = pc')
    (k : Go p.tables e below P (T.setTop (mkF m pc' Ls (.null :: st)))) : Go p.tables e below P (T.setTop (mkF m pc Ls (.null :: st))) := by
  obtain ⟨locs, Y, N, eT, O, K, hx, hby, hml, hret, hlk, hown, hnm, hZ⟩ := X
  subst hp
  exact Go.go (Y.checkcastNull hx (g := mkF m pc Ls (.null :: st)) rfl rfl (hb hby hd)) k
theorem o_len {a : Addr} {ka : ClassId} {ty : FieldType} {n : Int32} {vs : List Value} {d : Value} (X : Here p l e R s m args below meth c Z bytes maxL ret own nm h0 n0 ws T h cells slots) (F : Arv Z h a ka ty n vs d) (hd : decode bytes pc = .ok (.arraylength, 1)) (hp : pc + 1 = pc')
    (k : Go p.tables e below P (T.setTop (mkF m pc' Ls (.int n :: st)))) : Go p.tables e below P (T.setTop (mkF m pc Ls (.ref a :: st))) := by
  obtain ⟨locs, Y, N, eT, O, K, hx, hby, hml, hret, hlk, hown, hnm, hZ⟩ := X
  subst hp
  obtain ⟨cl, A, -, S, q, -⟩ := F
  refine Go.go (Y.arraylength hx (by rw [eT]; exact A.1) (State.isArrayOf_alike hZ.alike A.2.1) (g := mkF m pc Ls (.ref a :: st)) rfl rfl (hb hby hd)) ?_
  rw [len_of S q]
  exact k
theorem o_iaload {a : Addr} {ka : ClassId} {n j : Int32} {vs : List Value} {d v : Value} (X : Here p l e R s m args below meth c Z bytes maxL ret own nm h0 n0 ws T h cells slots) (F : Arv Z h a ka .int n vs d) (hj : ¬ j < 0 ∧ j < n) (hv : vs.getD j.toNatClampNeg d = v) (hd : decode bytes pc = .ok (.iaload, 1)) (hp : pc + 1 = pc')
    (k : Go p.tables e below P (T.setTop (mkF m pc' Ls (v :: st)))) : Go p.tables e below P (T.setTop (mkF m pc Ls (.int j :: .ref a :: st))) := by
  obtain ⟨locs, Y, N, eT, O, K, hx, hby, hml, hret, hlk, hown, hnm, hZ⟩ := X
  subst hp
  obtain ⟨cl, A, -, S, q, H, -⟩ := F
  have hin := inb_of S hj
  exact Go.go (Y.iaload hx (by rw [eT]; exact A.1) (State.isArrayOf_alike hZ.alike A.2.1) A.2.2 hin (H.at hin hv) (g := mkF m pc Ls (.int j :: .ref a :: st)) rfl rfl (hb hby hd)) k
theorem o_caload {a : Addr} {ka : ClassId} {n j : Int32} {vs : List Value} {d v : Value} (X : Here p l e R s m args below meth c Z bytes maxL ret own nm h0 n0 ws T h cells slots) (F : Arv Z h a ka .char n vs d) (hj : ¬ j < 0 ∧ j < n) (hv : vs.getD j.toNatClampNeg d = v) (hd : decode bytes pc = .ok (.caload, 1)) (hp : pc + 1 = pc')
    (k : Go p.tables e below P (T.setTop (mkF m pc' Ls (v :: st)))) : Go p.tables e below P (T.setTop (mkF m pc Ls (.int j :: .ref a :: st))) := by
  obtain ⟨locs, Y, N, eT, O, K, hx, hby, hml, hret, hlk, hown, hnm, hZ⟩ := X
  subst hp
  obtain ⟨cl, A, -, S, q, H, -⟩ := F
  have hin := inb_of S hj
  exact Go.go (Y.caload hx (by rw [eT]; exact A.1) (State.isArrayOf_alike hZ.alike A.2.1) A.2.2 hin (H.at hin hv) (g := mkF m pc Ls (.int j :: .ref a :: st)) rfl rfl (hb hby hd)) k
theorem o_baload {a : Addr} {ka : ClassId} {n j : Int32} {vs : List Value} {d v : Value} (X : Here p l e R s m args below meth c Z bytes maxL ret own nm h0 n0 ws T h cells slots) (F : Arv Z h a ka .byte n vs d) (hj : ¬ j < 0 ∧ j < n) (hv : vs.getD j.toNatClampNeg d = v) (hd : decode bytes pc = .ok (.baload, 1)) (hp : pc + 1 = pc')
    (k : Go p.tables e below P (T.setTop (mkF m pc' Ls (v :: st)))) : Go p.tables e below P (T.setTop (mkF m pc Ls (.int j :: .ref a :: st))) := by
  obtain ⟨locs, Y, N, eT, O, K, hx, hby, hml, hret, hlk, hown, hnm, hZ⟩ := X
  subst hp
  obtain ⟨cl, A, -, S, q, H, -⟩ := F
  have hin := inb_of S hj
  exact Go.go (Y.baloadBytes hx (by rw [eT]; exact A.1) (State.isArrayOf_alike hZ.alike A.2.1) A.2.2 hin (H.at hin hv) (g := mkF m pc Ls (.int j :: .ref a :: st)) rfl rfl (hb hby hd)) k
theorem o_laload {a : Addr} {ka : ClassId} {n j : Int32} {vs : List Value} {d v : Value} (X : Here p l e R s m args below meth c Z bytes maxL ret own nm h0 n0 ws T h cells slots) (F : Arv Z h a ka .long n vs d) (hj : ¬ j < 0 ∧ j < n) (hv : vs.getD j.toNatClampNeg d = v) (hd : decode bytes pc = .ok (.laload, 1)) (hp : pc + 1 = pc')
    (k : Go p.tables e below P (T.setTop (mkF m pc' Ls (v :: st)))) : Go p.tables e below P (T.setTop (mkF m pc Ls (.int j :: .ref a :: st))) := by
  obtain ⟨locs, Y, N, eT, O, K, hx, hby, hml, hret, hlk, hown, hnm, hZ⟩ := X
  subst hp
  obtain ⟨cl, A, -, S, q, H, -⟩ := F
  have hin := inb_of S hj
  exact Go.go (Y.laload hx (by rw [eT]; exact A.1) (State.isArrayOf_alike hZ.alike A.2.1) A.2.2 hin (H.at hin hv) (g := mkF m pc Ls (.int j :: .ref a :: st)) rfl rfl (hb hby hd)) k
theorem o_saload {a : Addr} {ka : ClassId} {n j : Int32} {vs : List Value} {d v : Value} (X : Here p l e R s m args below meth c Z bytes maxL ret own nm h0 n0 ws T h cells slots) (F : Arv Z h a ka .short n vs d) (hj : ¬ j < 0 ∧ j < n) (hv : vs.getD j.toNatClampNeg d = v) (hd : decode bytes pc = .ok (.saload, 1)) (hp : pc + 1 = pc')
    (k : Go p.tables e below P (T.setTop (mkF m pc' Ls (v :: st)))) : Go p.tables e below P (T.setTop (mkF m pc Ls (.int j :: .ref a :: st))) := by
  obtain ⟨locs, Y, N, eT, O, K, hx, hby, hml, hret, hlk, hown, hnm, hZ⟩ := X
  subst hp
  obtain ⟨cl, A, -, S, q, H, -⟩ := F
  have hin := inb_of S hj
  exact Go.go (Y.saload hx (by rw [eT]; exact A.1) (State.isArrayOf_alike hZ.alike A.2.1) A.2.2 hin (H.at hin hv) (g := mkF m pc Ls (.int j :: .ref a :: st)) rfl rfl (hb hby hd)) k
theorem o_aaload {a : Addr} {ka : ClassId} {ty : FieldType} {n j : Int32} {vs : List Value} {d v : Value} (X : Here p l e R s m args below meth c Z bytes maxL ret own nm h0 n0 ws T h cells slots) (F : Arv Z h a ka ty n vs d) (hty : ty.isReference = true) (hj : ¬ j < 0 ∧ j < n) (hv : vs.getD j.toNatClampNeg d = v) (hd : decode bytes pc = .ok (.aaload, 1)) (hp : pc + 1 = pc')
    (k : Go p.tables e below P (T.setTop (mkF m pc' Ls (v :: st)))) : Go p.tables e below P (T.setTop (mkF m pc Ls (.int j :: .ref a :: st))) := by
  obtain ⟨locs, Y, N, eT, O, K, hx, hby, hml, hret, hlk, hown, hnm, hZ⟩ := X
  subst hp
  obtain ⟨cl, A, -, S, q, H, -⟩ := F
  have hin := inb_of S hj
  exact Go.go (Y.aaload hx (by rw [eT]; exact A.1) (State.isArrayOf_alike hZ.alike A.2.1) hty A.2.2 hin (H.at hin hv) (g := mkF m pc Ls (.int j :: .ref a :: st)) rfl rfl (hb hby hd)) k
theorem o_new {C : String} {index kk : Nat} (X : Here p l e R s m args below meth c Z bytes maxL ret own nm h0 n0 ws T h cells slots) (w : (Cond.classLink own index C).before a0 Z = true) (wi : (Cond.instantiable C kk).before a0 Z = true) (wz : (Cond.initialized C).before a0 Z = true) (hd : decode bytes pc = .ok (.new index, 3)) (hp : pc + 3 = pc') (hc : cells + 1 ≤ R.cells) (hl : slots + kk ≤ R.slots)
    (k : ∀ T' h' b, Here p l e R s m args below meth c Z bytes maxL ret own nm h0 n0 ws T' h' (cells + 1) (slots + kk) → b = h.size → b < h'.size → Ext h h' → Exa Z h' b C → (∀ {O nm d : String} {ty : FieldType}, Laid Z a0 C O nm d → parseFieldDescriptor d = some ty → Fld Z h' b O nm d (defaultValue ty)) → Unt h' b → Go p.tables e below P (T'.setTop (mkF m pc' Ls (.ref b :: st)))) : Go p.tables e below P (T.setTop (mkF m pc Ls st)) := by
  obtain ⟨locs, Y, N, eT, O, K, hx, hby, hml, hret, hlk, hown, hnm, hZ⟩ := X
  subst hp
  obtain ⟨T', h', Y', e', E', A', D', U', st'⟩ := newO Y hx hZ hown w wi wz eT (g := mkF m pc Ls st) rfl (hb hby hd) hc hl
  exact Go.go st' (k T' h' _ ⟨locs, Y', N, e', O.ext E', K.ext E', hx, hby, hml, hret, hlk, hown, hnm, hZ⟩ rfl A'.lt E' A' D' U')
theorem o_newP {aty : ArrayType} {n : Int32} {cap : Nat} {ad : String} (X : Here p l e R s m args below meth c Z bytes maxL ret own nm h0 n0 ws T h cells slots) (w : (Cond.arrayClass (newarray.typeOf aty)).before a0 Z = true) (hd : decode bytes pc = .ok (.newarray aty, 2)) (hp : pc + 2 = pc') (hn : ¬ n < 0) (hcap : n.toNatClampNeg ≤ cap) (hb' : cap * 8 ≤ 536870912) (hc : cells + 1 ≤ R.cells) (hl : slots + cap ≤ R.slots) (had : "[" ++ (newarray.typeOf aty).toString = ad)
    (k : ∀ T' h' b ka, Here p l e R s m args below meth c Z bytes maxL ret own nm h0 n0 ws T' h' (cells + 1) (slots + cap) → b = h.size → b < h'.size → Ext h h' → Arv Z h' b ka (newarray.typeOf aty) n [] (defaultValue (newarray.typeOf aty)) → Exa Z h' b ad → Go p.tables e below P (T'.setTop (mkF m pc' Ls (.ref b :: st)))) : Go p.tables e below P (T.setTop (mkF m pc Ls (.int n :: st))) := by
  obtain ⟨locs, Y, N, eT, O, K, hx, hby, hml, hret, hlk, hown, hnm, hZ⟩ := X
  subst hp
  obtain ⟨T', h', ka, Y', e', E', A', B', st'⟩ := newPE Y hx hZ w eT (g := mkF m pc Ls (.int n :: st)) rfl (hb hby hd) rfl hn hcap hb' hc hl had
  exact Go.go st' (k T' h' _ ka ⟨locs, Y', N, e', O.ext E', K.ext E', hx, hby, hml, hret, hlk, hown, hnm, hZ⟩ rfl A'.lt E' (Arv.new A' hn) B')
theorem o_newR {C ad : String} {index : Nat} {n : Int32} {cap : Nat} (X : Here p l e R s m args below meth c Z bytes maxL ret own nm h0 n0 ws T h cells slots) (w : (Cond.classLink own index C).before a0 Z = true) (w2 : (Cond.arrayOver (.object C)).before a0 Z = true) (hd : decode bytes pc = .ok (.anewarray index, 3)) (hp : pc + 3 = pc') (hn : ¬ n < 0) (hcap : n.toNatClampNeg ≤ cap) (hb' : cap * 8 ≤ 536870912) (hc : cells + 1 ≤ R.cells) (hl : slots + cap ≤ R.slots) (had : "[" ++ (FieldType.object C).toString = ad)
    (k : ∀ T' h' b ka, Here p l e R s m args below meth c Z bytes maxL ret own nm h0 n0 ws T' h' (cells + 1) (slots + cap) → b = h.size → b < h'.size → Ext h h' → Arv Z h' b ka (.object C) n [] .null → Ovr Z ka C → Exa Z h' b ad → Go p.tables e below P (T'.setTop (mkF m pc' Ls (.ref b :: st)))) : Go p.tables e below P (T.setTop (mkF m pc Ls (.int n :: st))) := by
  obtain ⟨locs, Y, N, eT, O, K, hx, hby, hml, hret, hlk, hown, hnm, hZ⟩ := X
  subst hp
  obtain ⟨T', h', ka, Y', e', E', A', B', V', st'⟩ := newRE Y hx hZ hown w w2 eT (g := mkF m pc Ls (.int n :: st)) rfl (hb hby hd) rfl hn hcap hb' hc hl had
  exact Go.go st' (k T' h' _ ka ⟨locs, Y', N, e', O.ext E', K.ext E', hx, hby, hml, hret, hlk, hown, hnm, hZ⟩ rfl A'.lt E' (Arv.new A' hn) V' B')
theorem o_putF {R0 O n d C : String} {index kk : Nat} {ty : FieldType} {a : Addr} {v v' old : Value} (X : Here p l e R s m args below meth c Z bytes maxL ret own nm h0 n0 ws T h cells slots) (w : (Cond.fieldLink own index R0 n d).before a0 Z = true) (via : Via Z R0 O n d) (F : Fld Z h a O n d old) (E : Exa Z h a C) (L : (Cond.lays C O n d).before a0 Z = true ∨ ((Cond.laysFinal C O n d).before a0 Z = true ∧ own = O ∧ nm = "<init>")) (wi : (Cond.instantiable C kk).before a0 Z = true) (hty : parseFieldDescriptor d = some ty) (hv : narrow ty v = v') (hf : fits ty v' = true) (hd : decode bytes pc = .ok (.putfield index, 3)) (hp : pc + 3 = pc') (hn0 : n0 ≤ a) (hws : a ∈ ws ∨ h0.size ≤ a)
    (k : ∀ T' h', Here p l e R s m args below meth c Z bytes maxL ret own nm h0 n0 ws T' h' cells slots → Wr h h' a (RoadKit.slotOf Z O n d) v' → Go p.tables e below P (T'.setTop (mkF m pc' Ls st))) : Go p.tables e below P (T.setTop (mkF m pc Ls (v :: .ref a :: st))) := by
  obtain ⟨locs, Y, N, eT, O, K, hx, hby, hml, hret, hlk, hown, hnm, hZ⟩ := X
  subst hp
  obtain ⟨T', h', Y', e', W', st'⟩ := putFN Y hx hZ hown w via eT F E (L.imp id fun q => ⟨q.1, q.2.1, hnm.trans q.2.2⟩) wi hty hv hf (g := mkF m pc Ls (v :: .ref a :: st)) rfl rfl (hb hby hd)
  exact Go.go st' (k T' h' ⟨_, Y', Fr.snoc Y' N hn0, e', O.wr W' hn0, K.wr W' hws, hx, hby, hml, hret, hlk, hown, hnm, hZ⟩ W')
theorem o_stC {a : Addr} {ka : ClassId} {n j : Int32} {x y : Int32} {i : Nat} {vs : List Value} {d : Value} (X : Here p l e R s m args below meth c Z bytes maxL ret own nm h0 n0 ws T h cells slots) (F : Arv Z h a ka .char n vs d) (hj : ¬ j < 0 ∧ j < n) (hi : j.toNatClampNeg = i) (hil : i < vs.length) (hv : nar .char x = y) (hd : decode bytes pc = .ok (.castore, 1)) (hp : pc + 1 = pc') (hn0 : n0 ≤ a) (hws : a ∈ ws ∨ h0.size ≤ a)
    (k : ∀ T' h', Here p l e R s m args below meth c Z bytes maxL ret own nm h0 n0 ws T' h' cells slots → (∃ sl w, Wr h h' a sl w) → Arv Z h' a ka .char n (vs.set i (.int y)) d → Go p.tables e below P (T'.setTop (mkF m pc' Ls st))) : Go p.tables e below P (T.setTop (mkF m pc Ls (.int x :: .int j :: .ref a :: st))) := by
  obtain ⟨locs, Y, N, eT, O, K, hx, hby, hml, hret, hlk, hown, hnm, hZ⟩ := X
  subst hp hv
  obtain ⟨cl, A, q1, S, q, H, G⟩ := F
  obtain ⟨T', h', Y', e', W', st'⟩ := RoadKit.stC Y hx hZ eT A (inb_of S hj) (g := mkF m pc Ls (.int x :: .int j :: .ref a :: st)) rfl rfl (hb hby hd)
  exact Go.go st' (k T' h' ⟨_, Y', Fr.snoc Y' N hn0, e', O.wr W' hn0, K.wr W' hws, hx, hby, hml, hret, hlk, hown, hnm, hZ⟩ ⟨_, _, W'⟩ (Arv.set A q1 S q H G (fits_nar_char _) W' i hi hil))
theorem o_stB {a : Addr} {ka : ClassId} {n j : Int32} {x y : Int32} {i : Nat} {vs : List Value} {d : Value} (X : Here p l e R s m args below meth c Z bytes maxL ret own nm h0 n0 ws T h cells slots) (F : Arv Z h a ka .byte n vs d) (hj : ¬ j < 0 ∧ j < n) (hi : j.toNatClampNeg = i) (hil : i < vs.length) (hv : nar .byte x = y) (hd : decode bytes pc = .ok (.bastore, 1)) (hp : pc + 1 = pc') (hn0 : n0 ≤ a) (hws : a ∈ ws ∨ h0.size ≤ a)
    (k : ∀ T' h', Here p l e R s m args below meth c Z bytes maxL ret own nm h0 n0 ws T' h' cells slots → (∃ sl w, Wr h h' a sl w) → Arv Z h' a ka .byte n (vs.set i (.int y)) d → Go p.tables e below P (T'.setTop (mkF m pc' Ls st))) : Go p.tables e below P (T.setTop (mkF m pc Ls (.int x :: .int j :: .ref a :: st))) := by
  obtain ⟨locs, Y, N, eT, O, K, hx, hby, hml, hret, hlk, hown, hnm, hZ⟩ := X
  subst hp hv
  obtain ⟨cl, A, q1, S, q, H, G⟩ := F
  obtain ⟨T', h', Y', e', W', st'⟩ := RoadKit.stB Y hx hZ eT A (inb_of S hj) (g := mkF m pc Ls (.int x :: .int j :: .ref a :: st)) rfl rfl (hb hby hd)
  exact Go.go st' (k T' h' ⟨_, Y', Fr.snoc Y' N hn0, e', O.wr W' hn0, K.wr W' hws, hx, hby, hml, hret, hlk, hown, hnm, hZ⟩ ⟨_, _, W'⟩ (Arv.set A q1 S q H G (fits_nar_byte _) W' i hi hil))
theorem o_stI {a : Addr} {ka : ClassId} {n j : Int32} {x y : Int32} {i : Nat} {vs : List Value} {d : Value} (X : Here p l e R s m args below meth c Z bytes maxL ret own nm h0 n0 ws T h cells slots) (F : Arv Z h a ka .int n vs d) (hj : ¬ j < 0 ∧ j < n) (hi : j.toNatClampNeg = i) (hil : i < vs.length) (hv : x = y) (hd : decode bytes pc = .ok (.iastore, 1)) (hp : pc + 1 = pc') (hn0 : n0 ≤ a) (hws : a ∈ ws ∨ h0.size ≤ a)
    (k : ∀ T' h', Here p l e R s m args below meth c Z bytes maxL ret own nm h0 n0 ws T' h' cells slots → (∃ sl w, Wr h h' a sl w) → Arv Z h' a ka .int n (vs.set i (.int y)) d → Go p.tables e below P (T'.setTop (mkF m pc' Ls st))) : Go p.tables e below P (T.setTop (mkF m pc Ls (.int x :: .int j :: .ref a :: st))) := by
  obtain ⟨locs, Y, N, eT, O, K, hx, hby, hml, hret, hlk, hown, hnm, hZ⟩ := X
  subst hp hv
  obtain ⟨cl, A, q1, S, q, H, G⟩ := F
  obtain ⟨T', h', Y', e', W', st'⟩ := RoadKit.stI Y hx hZ eT A (inb_of S hj) (g := mkF m pc Ls (.int x :: .int j :: .ref a :: st)) rfl rfl (hb hby hd)
  exact Go.go st' (k T' h' ⟨_, Y', Fr.snoc Y' N hn0, e', O.wr W' hn0, K.wr W' hws, hx, hby, hml, hret, hlk, hown, hnm, hZ⟩ ⟨_, _, W'⟩ (Arv.set A q1 S q H G (rfl) W' i hi hil))
theorem o_stJ {a : Addr} {ka : ClassId} {n j : Int32} {x y : Int64} {i : Nat} {vs : List Value} {d : Value} (X : Here p l e R s m args below meth c Z bytes maxL ret own nm h0 n0 ws T h cells slots) (F : Arv Z h a ka .long n vs d) (hj : ¬ j < 0 ∧ j < n) (hi : j.toNatClampNeg = i) (hil : i < vs.length) (hv : x = y) (hd : decode bytes pc = .ok (.lastore, 1)) (hp : pc + 1 = pc') (hn0 : n0 ≤ a) (hws : a ∈ ws ∨ h0.size ≤ a)
    (k : ∀ T' h', Here p l e R s m args below meth c Z bytes maxL ret own nm h0 n0 ws T' h' cells slots → (∃ sl w, Wr h h' a sl w) → Arv Z h' a ka .long n (vs.set i (.long y)) d → Go p.tables e below P (T'.setTop (mkF m pc' Ls st))) : Go p.tables e below P (T.setTop (mkF m pc Ls (.long x :: .int j :: .ref a :: st))) := by
  obtain ⟨locs, Y, N, eT, O, K, hx, hby, hml, hret, hlk, hown, hnm, hZ⟩ := X
  subst hp hv
  obtain ⟨cl, A, q1, S, q, H, G⟩ := F
  obtain ⟨T', h', Y', e', W', st'⟩ := RoadKit.stJ Y hx hZ eT A (inb_of S hj) (g := mkF m pc Ls (.long x :: .int j :: .ref a :: st)) rfl rfl (hb hby hd)
  exact Go.go st' (k T' h' ⟨_, Y', Fr.snoc Y' N hn0, e', O.wr W' hn0, K.wr W' hws, hx, hby, hml, hret, hlk, hown, hnm, hZ⟩ ⟨_, _, W'⟩ (Arv.set A q1 S q H G (rfl) W' i hi hil))
theorem o_stS {a : Addr} {ka : ClassId} {n j : Int32} {x y : Int32} {i : Nat} {vs : List Value} {d : Value} (X : Here p l e R s m args below meth c Z bytes maxL ret own nm h0 n0 ws T h cells slots) (F : Arv Z h a ka .short n vs d) (hj : ¬ j < 0 ∧ j < n) (hi : j.toNatClampNeg = i) (hil : i < vs.length) (hv : nar .short x = y) (hd : decode bytes pc = .ok (.sastore, 1)) (hp : pc + 1 = pc') (hn0 : n0 ≤ a) (hws : a ∈ ws ∨ h0.size ≤ a)
    (k : ∀ T' h', Here p l e R s m args below meth c Z bytes maxL ret own nm h0 n0 ws T' h' cells slots → (∃ sl w, Wr h h' a sl w) → Arv Z h' a ka .short n (vs.set i (.int y)) d → Go p.tables e below P (T'.setTop (mkF m pc' Ls st))) : Go p.tables e below P (T.setTop (mkF m pc Ls (.int x :: .int j :: .ref a :: st))) := by
  obtain ⟨locs, Y, N, eT, O, K, hx, hby, hml, hret, hlk, hown, hnm, hZ⟩ := X
  subst hp hv
  obtain ⟨cl, A, q1, S, q, H, G⟩ := F
  obtain ⟨T', h', Y', e', W', st'⟩ := RoadKit.stS Y hx hZ eT A (inb_of S hj) (g := mkF m pc Ls (.int x :: .int j :: .ref a :: st)) rfl rfl (hb hby hd)
  exact Go.go st' (k T' h' ⟨_, Y', Fr.snoc Y' N hn0, e', O.wr W' hn0, K.wr W' hws, hx, hby, hml, hret, hlk, hown, hnm, hZ⟩ ⟨_, _, W'⟩ (Arv.set A q1 S q H G (fits_nar_short _) W' i hi hil))
theorem o_stZ {a : Addr} {ka : ClassId} {n j : Int32} {x y : Int32} {i : Nat} {vs : List Value} {d : Value} (X : Here p l e R s m args below meth c Z bytes maxL ret own nm h0 n0 ws T h cells slots) (F : Arv Z h a ka .boolean n vs d) (hj : ¬ j < 0 ∧ j < n) (hi : j.toNatClampNeg = i) (hil : i < vs.length) (hv : nar .boolean x = y) (hd : decode bytes pc = .ok (.bastore, 1)) (hp : pc + 1 = pc') (hn0 : n0 ≤ a) (hws : a ∈ ws ∨ h0.size ≤ a)
    (k : ∀ T' h', Here p l e R s m args below meth c Z bytes maxL ret own nm h0 n0 ws T' h' cells slots → (∃ sl w, Wr h h' a sl w) → Arv Z h' a ka .boolean n (vs.set i (.int y)) d → Go p.tables e below P (T'.setTop (mkF m pc' Ls st))) : Go p.tables e below P (T.setTop (mkF m pc Ls (.int x :: .int j :: .ref a :: st))) := by
  obtain ⟨locs, Y, N, eT, O, K, hx, hby, hml, hret, hlk, hown, hnm, hZ⟩ := X
  subst hp hv
  obtain ⟨cl, A, q1, S, q, H, G⟩ := F
  obtain ⟨T', h', Y', e', W', st'⟩ := RoadKit.stZ Y hx hZ eT A (inb_of S hj) (g := mkF m pc Ls (.int x :: .int j :: .ref a :: st)) rfl rfl (hb hby hd)
  exact Go.go st' (k T' h' ⟨_, Y', Fr.snoc Y' N hn0, e', O.wr W' hn0, K.wr W' hws, hx, hby, hml, hret, hlk, hown, hnm, hZ⟩ ⟨_, _, W'⟩ (Arv.set A q1 S q H G (fits_nar_bool _) W' i hi hil))
theorem o_stR {a : Addr} {ka : ClassId} {ty : FieldType} {n j : Int32} {v : Value} {i : Nat} {vs : List Value} {d : Value} (X : Here p l e R s m args below meth c Z bytes maxL ret own nm h0 n0 ws T h cells slots) (F : Arv Z h a ka ty n vs d) (hty : ty.isReference = true) (hSto : Sto Z h a v) (hfit : fits ty v = true) (hj : ¬ j < 0 ∧ j < n) (hi : j.toNatClampNeg = i) (hil : i < vs.length) (hd : decode bytes pc = .ok (.aastore, 1)) (hp : pc + 1 = pc') (hn0 : n0 ≤ a) (hws : a ∈ ws ∨ h0.size ≤ a)
    (k : ∀ T' h', Here p l e R s m args below meth c Z bytes maxL ret own nm h0 n0 ws T' h' cells slots → (∃ sl w, Wr h h' a sl w) → Arv Z h' a ka ty n (vs.set i v) d → Go p.tables e below P (T'.setTop (mkF m pc' Ls st))) : Go p.tables e below P (T.setTop (mkF m pc Ls (v :: .int j :: .ref a :: st))) := by
  obtain ⟨locs, Y, N, eT, O, K, hx, hby, hml, hret, hlk, hown, hnm, hZ⟩ := X
  subst hp
  obtain ⟨cl, A, q1, S, q, H, G⟩ := F
  obtain ⟨T', h', Y', e', W', st'⟩ := RoadKit.stR Y hx hZ eT A (inb_of S hj) hty hSto (g := mkF m pc Ls (v :: .int j :: .ref a :: st)) rfl rfl (hb hby hd)
  exact Go.go st' (k T' h' ⟨_, Y', Fr.snoc Y' N hn0, e', O.wr W' hn0, K.wr W' hws, hx, hby, hml, hret, hlk, hown, hnm, hZ⟩ ⟨_, _, W'⟩ (Arv.set A q1 S q H G hfit W' i hi hil))
theorem o_ldcI {index : Nat} {v : Int32} (X : Here p l e R s m args below meth c Z bytes maxL ret own nm h0 n0 ws T h cells slots) (w : (Cond.constant own index v).before a0 Z = true) (hd : decode bytes pc = .ok (.ldc index, 2)) (hp : pc + 2 = pc')
    (k : Go p.tables e below P (T.setTop (mkF m pc' Ls (.int v :: st)))) : Go p.tables e below P (T.setTop (mkF m pc Ls st)) := by
  obtain ⟨locs, Y, N, eT, O, K, hx, hby, hml, hret, hlk, hown, hnm, hZ⟩ := X
  subst hp
  exact Go.go (Y.ldcInt hx hown (mvT hZ w) (g := mkF m pc Ls st) rfl (hb hby hd)) k
theorem o_ldcL {index : Nat} {v : Int64} (X : Here p l e R s m args below meth c Z bytes maxL ret own nm h0 n0 ws T h cells slots) (w : (Cond.constantLong own index v).before a0 Z = true) (hd : decode bytes pc = .ok (.ldc2_w index, 3)) (hp : pc + 3 = pc')
    (k : Go p.tables e below P (T.setTop (mkF m pc' Ls (.long v :: st)))) : Go p.tables e below P (T.setTop (mkF m pc Ls st)) := by
  obtain ⟨locs, Y, N, eT, O, K, hx, hby, hml, hret, hlk, hown, hnm, hZ⟩ := X
  subst hp
  exact Go.go (Y.ldc2Long hx hown (mvT hZ w) (g := mkF m pc Ls st) rfl (hb hby hd)) k
theorem o_ret  {Po : Option Value → Heap → Prop} (X : Here p l e R s m args below meth c Z bytes maxL ret own nm h0 n0 ws T h cells slots) (hd : decode bytes pc = .ok (.return_, 1)) (hr0 : ret = none) (hc : cells ≤ R.cells) (hs : slots ≤ R.slots) (hQ : Po (none) h) : Go p.tables e below (PO s R h0 n0 ws Po) (T.setTop (mkF m pc Ls [])) := by
  obtain ⟨locs, Y, N, eT, O, K, hx, hby, hml, hret, hlk, hown, hnm, hZ⟩ := X
  obtain ⟨fs, hr, hrun, hended, hW, hsame⟩ := Y.leave (v := none) (fun _ => rfl) hlk
  refine ⟨_, _, ?_, hrun, hended, _, _, rfl, ⟨N, ?_, ?_⟩, ⟨_, rfl⟩, hW, hsame.mono hc hs⟩
  · exact Y.returnOut hx (hret.trans hr0) (hb hby hd) hr
  · show Keep h0 T.heap ws
    rw [eT]; exact K
  · show Po _ T.heap
    rw [eT]; exact hQ
theorem o_iret {z : Int32} {Po : Option Value → Heap → Prop} (X : Here p l e R s m args below meth c Z bytes maxL ret own nm h0 n0 ws T h cells slots) (hd : decode bytes pc = .ok (.ireturn, 1)) (hr0 : ret = some .int) (hc : cells ≤ R.cells) (hs : slots ≤ R.slots) (hQ : Po (some (.int z)) h) : Go p.tables e below (PO s R h0 n0 ws Po) (T.setTop (mkF m pc Ls (.int z :: rest))) := by
  obtain ⟨locs, Y, N, eT, O, K, hx, hby, hml, hret, hlk, hown, hnm, hZ⟩ := X
  obtain ⟨fs, hr, hrun, hended, hW, hsame⟩ := Y.leave (v := some (.int z)) (fun h => by rw [hret, hr0] at h; cases h) hlk
  refine ⟨_, _, ?_, hrun, hended, _, _, rfl, ⟨N, ?_, ?_⟩, ⟨_, rfl⟩, hW, hsame.mono hc hs⟩
  · exact retOut Y hx (hret.trans hr0) rfl (Or.inl ⟨rfl, Or.inl rfl, _, rfl⟩) (hb hby hd) hr
  · show Keep h0 T.heap ws
    rw [eT]; exact K
  · show Po _ T.heap
    rw [eT]; exact hQ
theorem o_nret {z y : Int32} {t : FieldType} {Po : Option Value → Heap → Prop} (X : Here p l e R s m args below meth c Z bytes maxL ret own nm h0 n0 ws T h cells slots) (hd : decode bytes pc = .ok (.ireturn, 1)) (hr0 : ret = some t) (hv : nar t z = y) (ht : t = .boolean ∨ t = .byte ∨ t = .char ∨ t = .short) (hc : cells ≤ R.cells) (hs : slots ≤ R.slots) (hQ : Po (some (.int y)) h) : Go p.tables e below (PO s R h0 n0 ws Po) (T.setTop (mkF m pc Ls (.int z :: rest))) := by
  obtain ⟨locs, Y, N, eT, O, K, hx, hby, hml, hret, hlk, hown, hnm, hZ⟩ := X
  obtain ⟨fs, hr, hrun, hended, hW, hsame⟩ := Y.leave (v := some (.int y)) (fun h => by rw [hret, hr0] at h; cases h) hlk
  refine ⟨_, _, ?_, hrun, hended, _, _, rfl, ⟨N, ?_, ?_⟩, ⟨_, rfl⟩, hW, hsame.mono hc hs⟩
  · subst hv; exact retN Y hx (hret.trans hr0) ht (hb hby hd) hr
  · show Keep h0 T.heap ws
    rw [eT]; exact K
  · show Po _ T.heap
    rw [eT]; exact hQ
theorem o_lret {z : Int64} {Po : Option Value → Heap → Prop} (X : Here p l e R s m args below meth c Z bytes maxL ret own nm h0 n0 ws T h cells slots) (hd : decode bytes pc = .ok (.lreturn, 1)) (hr0 : ret = some .long) (hc : cells ≤ R.cells) (hs : slots ≤ R.slots) (hQ : Po (some (.long z)) h) : Go p.tables e below (PO s R h0 n0 ws Po) (T.setTop (mkF m pc Ls (.long z :: rest))) := by
  obtain ⟨locs, Y, N, eT, O, K, hx, hby, hml, hret, hlk, hown, hnm, hZ⟩ := X
  obtain ⟨fs, hr, hrun, hended, hW, hsame⟩ := Y.leave (v := some (.long z)) (fun h => by rw [hret, hr0] at h; cases h) hlk
  refine ⟨_, _, ?_, hrun, hended, _, _, rfl, ⟨N, ?_, ?_⟩, ⟨_, rfl⟩, hW, hsame.mono hc hs⟩
  · exact retOut Y hx (hret.trans hr0) rfl (Or.inr (Or.inl ⟨rfl, rfl, _, rfl⟩)) (hb hby hd) hr
  · show Keep h0 T.heap ws
    rw [eT]; exact K
  · show Po _ T.heap
    rw [eT]; exact hQ
theorem o_aret {w : Value} {t : FieldType} {Po : Option Value → Heap → Prop} (X : Here p l e R s m args below meth c Z bytes maxL ret own nm h0 n0 ws T h cells slots) (hd : decode bytes pc = .ok (.areturn, 1)) (hr0 : ret = some t) (ht : t.isReference = true) (hw : w.isRef = true) (hc : cells ≤ R.cells) (hs : slots ≤ R.slots) (hQ : Po (some w) h) : Go p.tables e below (PO s R h0 n0 ws Po) (T.setTop (mkF m pc Ls (w :: rest))) := by
  obtain ⟨locs, Y, N, eT, O, K, hx, hby, hml, hret, hlk, hown, hnm, hZ⟩ := X
  obtain ⟨fs, hr, hrun, hended, hW, hsame⟩ := Y.leave (v := some w) (fun h => by rw [hret, hr0] at h; cases h) hlk
  refine ⟨_, _, ?_, hrun, hended, _, _, rfl, ⟨N, ?_, ?_⟩, ⟨_, rfl⟩, hW, hsame.mono hc hs⟩
  · exact retOut Y hx (hret.trans hr0) (by rcases ref_cases hw with rfl | ⟨a, rfl⟩ <;> cases t <;> first | rfl | cases ht) (Or.inr (Or.inr (Or.inr (Or.inr ⟨rfl, ht, hw⟩)))) (hb hby hd) hr
  · show Keep h0 T.heap ws
    rw [eT]; exact K
  · show Po _ T.heap
    rw [eT]; exact hQ
theorem o_static {index : Nat} {y : MethodName} {bytes' : ByteArray} {maxL' : Nat} {ret' : Option FieldType} {W kc ks : Nat} {Q : Option Value → Heap → List Loc → Prop} {ws' : List Addr} {argsL : List Value} (X : Here p l e R s m args below meth c Z bytes maxL ret own nm h0 n0 ws T h cells slots) (w1 : (Cond.methodLink own index y).before a0 Z = true) (w2 : (Cond.static y).before a0 Z = true) (w3 : (Cond.initialized y.cls).before a0 Z = true) (w4 : (Cond.code y bytes' maxL' ret').before a0 Z = true) (hy : y.cls ≠ "java/lang/invoke/MethodHandle" ∧ y.cls ≠ "java/lang/invoke/VarHandle") (hlen : ∀ sig, parseMethodDescriptor y.desc = some sig → argsL.length = sig.parameters.length) (hK : Back l R p e below s args y 3 W (fun A a => a = argsL.toArray ∧ A.U.heap = h ∧ A.cells + kc ≤ R.cells ∧ A.slots + ks ≤ R.slots) (fun A _ v B => ∃ L, Q v B.U.heap L ∧ B.locs = A.locs ++ L ∧ B.cells = A.cells + kc ∧ B.slots = A.slots + ks)) (hd : decode bytes pc = .ok (.invokestatic index, 3)) (hp : pc + 3 = pc') (hsz : Ls.size = maxL) (hstk : st = argsL.reverse ++ rest) (hW : (rest.map fun v => v.category).sum ≤ W) (hc : cells + kc ≤ R.cells) (hs : slots + ks ≤ R.slots) (hQ : ∀ v h' L, Q v h' L → Fr n0 L ∧ Keep h h' ws') (hws : ∀ x ∈ ws', n0 ≤ x ∧ (x ∈ ws ∨ h0.size ≤ x))
    (k : ∀ v T' h' L, Here p l e R s m args below meth c Z bytes maxL ret own nm h0 n0 ws T' h' (cells + kc) (slots + ks) → Q v h' L → Keep h h' ws' → Go p.tables e below P (T'.setTop (mkF m pc' Ls (v.toList ++ rest)))) : Go p.tables e below P (T.setTop (mkF m pc Ls st)) := by
  obtain ⟨locs, Y, N, eT, O, K, hx, hby, hml, hret, hlk, hown, hnm, hZ⟩ := X
  subst hp hstk
  obtain ⟨v, vm₁, ⟨T', L', k', n'⟩, -, X', ⟨L, hq, l', y', z'⟩, st'⟩ := Jvm.LawKit.callS Y hx hown (mvT hZ w1) (mvT hZ w2) (mvT hZ w3) (mvT hZ w4) hy hK (g := mkF m pc Ls (argsL.reverse ++ rest)) rfl (by rw [hml]; exact hsz) (argsL := argsL) (rest := rest) hlen rfl (by show 2 * 0 + _ ≤ _; omega) (hb hby hd) (fun _ _ => ⟨rfl, eT, hc, hs⟩)
  dsimp only [Pt.U, Pt.locs, Pt.cells, Pt.slots] at X' l' y' z' st' hq
  subst l' y' z'
  obtain ⟨f1, f2⟩ := hQ _ _ _ hq
  exact Go.go st' (k v T' _ L ⟨_, X', N.app f1, rfl, O.keep f2 (fun x hx => (hws x hx).1), K.trans f2 (fun x hx => (hws x hx).2), hx, hby, hml, hret, hlk, hown, hnm, hZ⟩ hq f2)
theorem o_special {index : Nat} {y : MethodName} {bytes' : ByteArray} {maxL' : Nat} {b : Addr} {W kc ks : Nat} {Q : Option Value → Heap → List Loc → Prop} {ws' : List Addr} {argsL : List Value} (X : Here p l e R s m args below meth c Z bytes maxL ret own nm h0 n0 ws T h cells slots) (hy1 : y.name = "<init>") (w1 : (Cond.methodLink own index y).before a0 Z = true) (w2 : (Cond.instanceMethod y).before a0 Z = true) (w4 : (Cond.code y bytes' maxL' none).before a0 Z = true) (hy : y.cls ≠ "java/lang/invoke/MethodHandle" ∧ y.cls ≠ "java/lang/invoke/VarHandle") (hlen : ∀ sig, parseMethodDescriptor y.desc = some sig → argsL.length = sig.parameters.length) (hK : Back l R p e below s args y 3 W (fun A a => a = (.ref b :: argsL).toArray ∧ A.U.heap = h ∧ A.cells + kc ≤ R.cells ∧ A.slots + ks ≤ R.slots) (fun A _ v B => ∃ L, Q v B.U.heap L ∧ B.locs = A.locs ++ L ∧ B.cells = A.cells + kc ∧ B.slots = A.slots + ks)) (hd : decode bytes pc = .ok (.invokespecial index, 3)) (hp : pc + 3 = pc') (hsz : Ls.size = maxL) (hstk : st = argsL.reverse ++ .ref b :: rest) (hW : (rest.map fun v => v.category).sum ≤ W) (hc : cells + kc ≤ R.cells) (hs : slots + ks ≤ R.slots) (hQ : ∀ v h' L, Q v h' L → Fr n0 L ∧ Keep h h' ws') (hws : ∀ x ∈ ws', n0 ≤ x ∧ (x ∈ ws ∨ h0.size ≤ x))
    (k : ∀ v T' h' L, Here p l e R s m args below meth c Z bytes maxL ret own nm h0 n0 ws T' h' (cells + kc) (slots + ks) → Q v h' L → Keep h h' ws' → Go p.tables e below P (T'.setTop (mkF m pc' Ls (v.toList ++ rest)))) : Go p.tables e below P (T.setTop (mkF m pc Ls st)) := by
  obtain ⟨locs, Y, N, eT, O, K, hx, hby, hml, hret, hlk, hown, hnm, hZ⟩ := X
  subst hp hstk
  obtain ⟨v, vm₁, ⟨T', L', k', n'⟩, -, X', ⟨L, hq, l', y', z'⟩, st'⟩ := Y.specialBack hx hy1 hown (mvT hZ w1) (mvT hZ w2) (mvT hZ w4) hy hK (g := mkF m pc Ls (argsL.reverse ++ .ref b :: rest)) rfl (by rw [hml]; exact hsz) (Steps.refl _) (a := b) (argsL := argsL) (rest := rest) hlen rfl (by show 2 * 0 + _ ≤ _; omega) (hb hby hd) (fun _ _ => ⟨rfl, eT, hc, hs⟩)
  dsimp only [Pt.U, Pt.locs, Pt.cells, Pt.slots] at X' l' y' z' st' hq
  subst l' y' z'
  obtain ⟨f1, f2⟩ := hQ _ _ _ hq
  exact Go.go (fun t q => st'.trans q) (k v T' _ L ⟨_, X', N.app f1, rfl, O.keep f2 (fun x hx => (hws x hx).1), K.trans f2 (fun x hx => (hws x hx).2), hx, hby, hml, hret, hlk, hown, hnm, hZ⟩ hq f2)
theorem o_virtual {index : Nat} {C : String} {y z : MethodName} {b : Addr} {W kc ks : Nat} {Q : Option Value → Heap → List Loc → Prop} {ws' : List Addr} {argsL : List Value} (X : Here p l e R s m args below meth c Z bytes maxL ret own nm h0 n0 ws T h cells slots) (E : Exa Z h b C) (w1 : (Cond.methodLink own index y).before a0 Z = true) (w2 : (Cond.declares y).before a0 Z = true) (w3 : (Cond.selects C y z).before a0 Z = true) (w4 : (Cond.instanceMethod z).before a0 Z = true) (nf : ∀ s' : State, Z.Warmed39 s'.vm → NotFace s' y) (hy : y.cls ≠ "java/lang/invoke/MethodHandle" ∧ y.cls ≠ "java/lang/invoke/VarHandle") (hlen : ∀ sig, parseMethodDescriptor y.desc = some sig → argsL.length = sig.parameters.length) (hK : Back l R p e below s args z 3 W (fun A a => a = (.ref b :: argsL).toArray ∧ A.U.heap = h ∧ A.cells + kc ≤ R.cells ∧ A.slots + ks ≤ R.slots) (fun A _ v B => ∃ L, Q v B.U.heap L ∧ B.locs = A.locs ++ L ∧ B.cells = A.cells + kc ∧ B.slots = A.slots + ks)) (hd : decode bytes pc = .ok (.invokevirtual index, 3)) (hp : pc + 3 = pc') (hsz : Ls.size = maxL) (hstk : st = argsL.reverse ++ .ref b :: rest) (hW : (rest.map fun v => v.category).sum ≤ W) (hc : cells + kc ≤ R.cells) (hs : slots + ks ≤ R.slots) (hQ : ∀ v h' L, Q v h' L → Fr n0 L ∧ Keep h h' ws') (hws : ∀ x ∈ ws', n0 ≤ x ∧ (x ∈ ws ∨ h0.size ≤ x))
    (k : ∀ v T' h' L, Here p l e R s m args below meth c Z bytes maxL ret own nm h0 n0 ws T' h' (cells + kc) (slots + ks) → Q v h' L → Keep h h' ws' → Go p.tables e below P (T'.setTop (mkF m pc' Ls (v.toList ++ rest)))) : Go p.tables e below P (T.setTop (mkF m pc Ls st)) := by
  obtain ⟨locs, Y, N, eT, O, K, hx, hby, hml, hret, hlk, hown, hnm, hZ⟩ := X
  obtain ⟨cq, kq, qa, qb, qc⟩ := isOf hZ eT E
  subst hp hstk
  obtain ⟨v, vm₁, ⟨T', L', k', n'⟩, -, X', ⟨L, hq, l', y', z'⟩, st'⟩ := (Y.virtualBack hx (y := y) (z := z) hown (mvT hZ w1) (mvT hZ w2) (nf _ hZ) (mvT hZ w3) (mvT hZ w4) hy hK qa qc (g := mkF m pc Ls (argsL.reverse ++ .ref b :: rest)) rfl (by rw [hml]; exact hsz) (Steps.refl _) (argsL := argsL) (rest := rest) hlen rfl (by show 2 * 0 + _ ≤ _; omega) (hb hby hd) (fun _ _ => ⟨rfl, eT, hc, hs⟩))
  dsimp only [Pt.U, Pt.locs, Pt.cells, Pt.slots] at X' l' y' z' st' hq
  subst l' y' z'
  obtain ⟨f1, f2⟩ := hQ _ _ _ hq
  exact Go.go (fun t q => st'.trans q) (k v T' _ L ⟨_, X', N.app f1, rfl, O.keep f2 (fun x hx => (hws x hx).1), K.trans f2 (fun x hx => (hws x hx).2), hx, hby, hml, hret, hlk, hown, hnm, hZ⟩ hq f2)
theorem o_iface {index count : Nat} {C : String} {y z : MethodName} {b : Addr} {W kc ks : Nat} {Q : Option Value → Heap → List Loc → Prop} {ws' : List Addr} {argsL : List Value} (X : Here p l e R s m args below meth c Z bytes maxL ret own nm h0 n0 ws T h cells slots) (E : Exa Z h b C) (w1 : (Cond.methodLink own index y).before a0 Z = true) (w2 : (Cond.declares y).before a0 Z = true) (w3 : (Cond.interfaceMethod y.cls y.cls y.name y.desc).before a0 Z = true) (w4 : (Cond.selects C y z).before a0 Z = true) (w5 : (Cond.instanceMethod z).before a0 Z = true) (w6 : (Cond.publicMethod z).before a0 Z = true) (w7 : (Cond.unhidden C y.name y.desc).before a0 Z = true) (w8 : (Cond.castable C y.cls).before a0 Z = true) (hd3 : ((Cond.interfaceMethod y.cls y.cls y.name y.desc).onTables && (Cond.interfaceMethod y.cls y.cls y.name y.desc).keepsFace) = true) (hy : y.cls ≠ "java/lang/invoke/MethodHandle" ∧ y.cls ≠ "java/lang/invoke/VarHandle") (hlen : ∀ sig, parseMethodDescriptor y.desc = some sig → argsL.length = sig.parameters.length) (hK : Back l R p e below s args z 5 W (fun A a => a = (.ref b :: argsL).toArray ∧ A.U.heap = h ∧ A.cells + kc ≤ R.cells ∧ A.slots + ks ≤ R.slots) (fun A _ v B => ∃ L, Q v B.U.heap L ∧ B.locs = A.locs ++ L ∧ B.cells = A.cells + kc ∧ B.slots = A.slots + ks)) (hd : decode bytes pc = .ok (.invokeinterface index count, 5)) (hp : pc + 5 = pc') (hsz : Ls.size = maxL) (hstk : st = argsL.reverse ++ .ref b :: rest) (hW : (rest.map fun v => v.category).sum ≤ W) (hc : cells + kc ≤ R.cells) (hs : slots + ks ≤ R.slots) (hQ : ∀ v h' L, Q v h' L → Fr n0 L ∧ Keep h h' ws') (hws : ∀ x ∈ ws', n0 ≤ x ∧ (x ∈ ws ∨ h0.size ≤ x))
    (k : ∀ v T' h' L, Here p l e R s m args below meth c Z bytes maxL ret own nm h0 n0 ws T' h' (cells + kc) (slots + ks) → Q v h' L → Keep h h' ws' → Go p.tables e below P (T'.setTop (mkF m pc' Ls (v.toList ++ rest)))) : Go p.tables e below P (T.setTop (mkF m pc Ls st)) := by
  obtain ⟨locs, Y, N, eT, O, K, hx, hby, hml, hret, hlk, hown, hnm, hZ⟩ := X
  obtain ⟨cq, kq, qa, qb, qc⟩ := isOf hZ eT E
  subst hp hstk
  obtain ⟨v, vm₁, ⟨T', L', k', n'⟩, -, X', ⟨L, hq, l', y', z'⟩, st'⟩ := (Y.interfaceBack hx (xi := y) (y := z) hown (mvT hZ w1) (mvT hZ w2) (mvT hZ w3 hd3) (mvT hZ w4) (mvT hZ w5) (mvT hZ w6) (mvT hZ w7) (mvT hZ w8) hy hK qa qb qc (g := mkF m pc Ls (argsL.reverse ++ .ref b :: rest)) rfl (by rw [hml]; exact hsz) (Steps.refl _) (argsL := argsL) (rest := rest) hlen rfl (by show 2 * 0 + _ ≤ _; omega) (hb hby hd) (fun _ _ => ⟨rfl, eT, hc, hs⟩))
  dsimp only [Pt.U, Pt.locs, Pt.cells, Pt.slots] at X' l' y' z' st' hq
  subst l' y' z'
  obtain ⟨f1, f2⟩ := hQ _ _ _ hq
  exact Go.go (fun t q => st'.trans q) (k v T' _ L ⟨_, X', N.app f1, rfl, O.keep f2 (fun x hx => (hws x hx).1), K.trans f2 (fun x hx => (hws x hx).2), hx, hby, hml, hret, hlk, hown, hnm, hZ⟩ hq f2)
theorem back_met {y : MethodName} {bytes' : ByteArray} {maxL' : Nat} {ret' : Option FieldType} {rm : Room} {len W : Nat} {as' : Array Value} {ws' : List Addr} {Po : Option Value → Heap → Prop} (hM : Met l y bytes' maxL' ret' [] rm Z as' h n0 ws' Po) (X : Here p l e R s m args below meth c Z bytes maxL ret own nm h0 n0 ws T h cells slots) (wc : (Cond.code y bytes' maxL' ret').before a0 Z = true) (wz : (Cond.initialized y.cls).before a0 Z = true) (hf : rm.frames + 1 ≤ R.frames) (hl : W + (maxL' + 11) + rm.locals ≤ R.locals) :
    Back l R p e below s args y len W (fun A a => a = as' ∧ A.U.heap = h ∧ A.cells + rm.cells ≤ R.cells ∧ A.slots + rm.slots ≤ R.slots) (fun A _ v B => ∃ L, QQ h n0 ws' Po v B.U.heap L ∧ B.locs = A.locs ++ L ∧ B.cells = A.cells + rm.cells ∧ B.slots = A.slots + rm.slots) := backOf hM X.zv wc wz hf hl
theorem nf_sel {C : String} {y : MethodName} (w : (Cond.selects C y y).before a0 Z = true) : ∀ s' : State, Z.Warmed39 s'.vm → NotFace s' y := fun s' hz => notFace_of_selects (args := #[]) (mvT hz w)
theorem qq_fr {ws' : List Addr} {Po : Option Value → Heap → Prop} : ∀ v h' L, QQ h n0 ws' Po v h' L → Fr n0 L ∧ Keep h h' ws' := fun _ _ _ q => ⟨q.1, q.2.1⟩
end Kit
end Jvm.OwnKit

namespace Jvm.OwnKit
open Sem ClassFile Op Lib Jvm.Stand Jvm.Free Jvm.LawKit Jvm.RoadKit
section Common
variable {Z : State} {h : Heap} {a0 : Array Value}
theorem own_nsRoot {O K : String} {n : Nat} (w : (Cond.noSuperclass O).before a0 Z = true) (wk : (Cond.instantiable K n).before a0 Z = true) (hn : O ≠ K) : NS Z O K := by
  obtain ⟨c, k, h1, h2, h3, -, -⟩ := Cond.noSuperclass_spec w
  obtain ⟨t, kt, g1, -⟩ := Cond.instantiable_spec wk
  have ne := ids_ne h1 g1 hn
  refine ⟨c, t, h1, g1, fun fuel => ?_⟩
  cases fuel with
  | zero => rfl
  | succ f => simp [Vm.isSubclassAux, ne, h2, h3]
theorem own_nsNo {C S K : String} {n : Nat} (w : (Cond.superclass C S).before a0 Z = true) (wk : (Cond.instantiable K n).before a0 Z = true) (q : NS Z C K) (hn : C ≠ K) : ∃ c t, Z.vm.findClass C = some c ∧ Z.vm.findClass K = some t ∧ Z.vm.assignable c t = false := by
  obtain ⟨c, t, h0, g0, n3⟩ := q
  obtain ⟨p, k, kp, h1, h2, h3, h4, h5, -, h7⟩ := Cond.superclass_spec h0 w
  obtain ⟨t', kt, g1, g2, g3, g4, -⟩ := Cond.instantiable_spec wk
  cases g0.symm.trans g1
  have g7 : kt.isInterface = false := by cases hi : kt.isInterface <;> simp [hi] at g4 ⊢
  have ne := ids_ne h0 g0 hn
  refine ⟨c, t, h0, g0, ?_⟩
  show Z.vm.assignableAux (255 + 1) c t = false
  simp [Vm.assignableAux, ne, h2, g2, h5, g3, g7, Vm.isSubclass, n3]
theorem own_nfI {y : MethodName} {n : Nat} (w : (Cond.instantiable y.cls n).before a0 Z = true) : ∀ s' : State, Z.Warmed39 s'.vm → NotFace s' y := fun s' hz r0 hn => by
  have w' : (Cond.instantiable y.cls n).before #[] s' = true := mvT hz w
  obtain ⟨c, k, g1, g2, -, g4, -⟩ := Cond.instantiable_spec w'
  have q := findClass_of_methodNamed hn
  cases g1.symm.trans q
  exact ⟨k, g2, by cases hi : k.isInterface <;> simp [hi] at g4 ⊢⟩
theorem own_notIns {a : Addr} {C K : String} {ty : FieldType} (E : Exa Z h a C) (w : (Cond.arrayClass ty).before a0 Z = true) (hK : "[" ++ ty.toString = K) (q : ¬ Ins Z h a K true) : ∃ c t, Z.vm.findClass C = some c ∧ Z.vm.findClass K = some t ∧ Z.vm.assignable c t = false := by
  subst hK
  obtain ⟨cell, k, h1, h2, h3, h4, -⟩ := E
  obtain ⟨t, kt, comp, g1, -⟩ := Cond.arrayClass_spec w
  refine ⟨cell.cls, t, h2, g1, ?_⟩
  cases hb : Z.vm.assignable cell.cls t with
  | false => rfl
  | true => exact absurd ⟨cell, t, h1, g1, by simp [h4, hb]⟩ q
theorem own_c255 (x c : Int32) (e : (x &&& (255 : Int32)).toUInt32.toUInt16.toUInt32.toInt32 = c) : ¬ c < 0 ∧ ¬ (255 : Int32) < c := by
  subst e
  have t : ∀ k : Fin 256, ¬ ((Int32.ofNat k.val).toUInt32.toUInt16.toUInt32.toInt32) < 0 ∧ ¬ (255 : Int32) < ((Int32.ofNat k.val).toUInt32.toUInt16.toUInt32.toInt32) := by decide +kernel
  have h : (x &&& 255).toBitVec.toNat < 256 := by
    simp only [Int32.toBitVec_and, BitVec.toNat_and]
    exact Nat.lt_succ_of_le Nat.and_le_right
  have e : (x &&& 255) = Int32.ofNat (x &&& 255).toBitVec.toNat := by
    apply Int32.toBitVec_inj.mp
    show _ = BitVec.ofNat 32 _
    rw [BitVec.ofNat_toNat]; simp
  rw [e]
  exact t ⟨_, h⟩
theorem own_narC {c : Int32} (r : ¬ c < 0 ∧ ¬ (255 : Int32) < c) : nar .char c = c := by
  have t : ∀ k : Fin 256, nar .char (Int32.ofNat k.val) = Int32.ofNat k.val := by decide +kernel
  have h1 : 0 ≤ c.toInt := by have q := r.1; rw [Int32.lt_iff_toInt_lt] at q; have e : (0 : Int32).toInt = 0 := rfl; omega
  have h2 : c.toInt ≤ 255 := by have q := r.2; rw [Int32.lt_iff_toInt_lt] at q; have e : (255 : Int32).toInt = 255 := rfl; omega
  have e : c = Int32.ofNat c.toInt.toNat := by
    apply Int32.toInt_inj.mp
    rw [Int32.toInt_ofNat_of_lt (by omega)]
    omega
  rw [e]
  exact t ⟨c.toInt.toNat, by omega⟩
theorem own_narB (x : Int32) : nar .byte (x.toInt8.toInt32) = x.toInt8.toInt32 := by simp [nar]
theorem own_up (cs : List Int32) (h : ∀ c ∈ cs, ¬ c < 0 ∧ ¬ (255 : Int32) < c) : ∀ c ∈ cs, ¬ c < 0 ∧ ¬ (65535 : Int32) < c := fun c hc => ⟨(h c hc).1, fun q => (h c hc).2 (by rw [Int32.lt_iff_toInt_lt] at q ⊢; have e1 : (65535 : Int32).toInt = 65535 := rfl; have e2 : (255 : Int32).toInt = 255 := rfl; omega)⟩
theorem own_place (x : Int32) (h1 : ¬ x < (-128 : Int32)) (h2 : ¬ (127 : Int32) < x) : (¬ (x + (128 : Int32)) < 0 ∧ (x + (128 : Int32)) < (256 : Int32)) ∧ (x + (128 : Int32)).toNatClampNeg < 256 := by
  have q := Jvm.Free.IntBox.place_ok x h1 h2
  refine ⟨⟨fun z => q.1 (Or.inl z), ?_⟩, q.2⟩
  have h := q.2
  rw [Int32.lt_iff_toInt_lt]
  have e : (256 : Int32).toInt = 256 := rfl
  simp only [Int32.toNatClampNeg] at h
  omega
theorem own_allC {c : Int32} {cs : List Int32} {P : Int32 → Prop} (h : P c) (r : ∀ d ∈ cs, P d) : ∀ d ∈ c :: cs, P d := fun d q => (List.mem_cons.mp q).elim (fun u => u ▸ h) (r d)
theorem own_icache {args : Array Value} {s : State} (hf : Fit s) (wI : (Cond.initialized "java/lang/Integer$IntegerCache").before args s = true) (w2 : (Cond.initializedFor "java/lang/Integer$IntegerCache" "high" "I").before args s = true) (w3 : (Cond.laysStatic "java/lang/Integer$IntegerCache" "cache" "[Ljava/lang/Integer;").before args s = true)
    (w4 : (Cond.eq (Term.static "java/lang/Integer$IntegerCache" "high" "I") (Term.int 127)).before args s = true) (w5 : (Cond.arrayOf (Term.static "java/lang/Integer$IntegerCache" "cache" "[Ljava/lang/Integer;") (.object "java/lang/Integer")).before args s = true)
    (w6 : (Cond.eq (Term.length (Term.static "java/lang/Integer$IntegerCache" "cache" "[Ljava/lang/Integer;")) (Term.int 256)).before args s = true)
    (w7 : (Cond.all (Term.static "java/lang/Integer$IntegerCache" "cache" "[Ljava/lang/Integer;") (Cond.and (Cond.exactly (Term.elem (Term.static "java/lang/Integer$IntegerCache" "cache" "[Ljava/lang/Integer;") (Term.index 0)) "java/lang/Integer") (Cond.eq (Term.field (Term.elem (Term.static "java/lang/Integer$IntegerCache" "cache" "[Ljava/lang/Integer;") (Term.index 0)) "java/lang/Integer" "value" "I") (Term.sub (Term.index 0) (Term.int 128))))).before args s = true) :
    ∃ (ca : Addr) (kca : ClassId) (cvs : List Value), Sta s s.heap "java/lang/Integer$IntegerCache" "high" "I" (.int (127 : Int32)) ∧ Sta s s.heap "java/lang/Integer$IntegerCache" "cache" "[Ljava/lang/Integer;" (.ref ca) ∧ Arv s s.heap ca kca (.object "java/lang/Integer") (256 : Int32) cvs .null ∧ ∀ i, i < 256 → ∃ r, cvs.getD i .null = .ref r ∧ Exa s s.heap r "java/lang/Integer" := by
  have eh := Cond.eq_int (show (Cond.eq (Term.static "java/lang/Integer$IntegerCache" "high" "I") (.int 127)).holds args s none s [] = true from w4) (rfl : (Term.int 127).eval args s none [] s = some (.int 127))
  obtain ⟨v, ev, -⟩ := static_fit hf w3 (ty := .array (.object "java/lang/Integer")) (by decide)
  obtain ⟨a, cell, rfl, hA, harr, hvm⟩ := Jvm.Free.IntBox.arrayOf_fwd w5 ev
  have hat := Jvm.Free.IntBox.arrayAt_of hA harr hvm
  obtain ⟨hsz, hsize⟩ := Jvm.Free.IntBox.length_fwd w6 ev hA harr hvm
  have h256 : cell.slots.size = 256 := by
    have e : (cell.slots.size.toInt32).toInt = cell.slots.size := by
      have : (cell.slots.size.toInt32).toInt = (cell.slots.size : Int).bmod (2 ^ 32) := by simp [Nat.toInt32, Int32.size]
      rw [this]; simp [Int.bmod]; omega
    rw [hsize] at e
    have : ((256 : Int32)).toInt = 256 := by decide
    omega
  have hall := Cond.all_elim ev hat (Cond.before_iff.mp w7)
  have hel : ∀ i, i < 256 → ∃ r, cell.slots[i]? = some (.ref r) ∧ Exa s s.heap r "java/lang/Integer" := fun i hi => by
    obtain ⟨q1, -⟩ := and_e (hall i (by rw [h256]; exact hi))
    obtain ⟨r, er⟩ := exa_v q1
    refine ⟨r, ?_, exa_at er q1⟩
    have evi : (Term.static "java/lang/Integer$IntegerCache" "cache" "[Ljava/lang/Integer;").eval args s none [i] s = some (.ref a) := ev
    obtain ⟨hnn, hback⟩ := Jvm.Free.IntBox.place_nonneg i hi
    have e2 : ∀ t : Term, t.eval args s none [i] s = some (.ref a) → (Term.elem t (.index 0)).eval args s none [i] s = cell.slots[i]? := fun t ht => by
      simp [Term.eval, ht, hnn, hat, hback]
    rw [← e2 _ evi]; exact er
  refine ⟨a, cell.cls, cell.slots.toList, Sta.start eh (Or.inl w2), Sta.start ev (Or.inr ⟨wI, w3⟩), ⟨cell, ⟨hA, harr, hvm⟩, rfl, by rw [h256]; decide, by decide, fun k hk => ?_, fun k hk => ?_⟩, fun i hi => ?_⟩
  · rw [List.getD_eq_getElem?_getD, Array.getElem?_toList, Array.getElem?_eq_getElem hk]; rfl
  · obtain ⟨r, e, -⟩ := hel k (by rw [← h256]; exact hk)
    rw [List.getD_eq_getElem?_getD, Array.getElem?_toList, e]; rfl
  · obtain ⟨r, e, E⟩ := hel i hi
    exact ⟨r, by rw [List.getD_eq_getElem?_getD, Array.getElem?_toList, e]; rfl, E⟩
theorem own_lcache {args : Array Value} {s : State} (hf : Fit s) (wI : (Cond.initialized "java/lang/Long$LongCache").before args s = true) (w3 : (Cond.laysStatic "java/lang/Long$LongCache" "cache" "[Ljava/lang/Long;").before args s = true)
    (w5 : (Cond.arrayOf (Term.static "java/lang/Long$LongCache" "cache" "[Ljava/lang/Long;") (.object "java/lang/Long")).before args s = true)
    (w6 : (Cond.eq (Term.length (Term.static "java/lang/Long$LongCache" "cache" "[Ljava/lang/Long;")) (Term.int 256)).before args s = true)
    (w7 : (Cond.all (Term.static "java/lang/Long$LongCache" "cache" "[Ljava/lang/Long;") (Cond.and (Cond.exactly (Term.elem (Term.static "java/lang/Long$LongCache" "cache" "[Ljava/lang/Long;") (Term.index 0)) "java/lang/Long") (Cond.eq (Term.field (Term.elem (Term.static "java/lang/Long$LongCache" "cache" "[Ljava/lang/Long;") (Term.index 0)) "java/lang/Long" "value" "J") (Term.op1 Unary.i2l (Term.sub (Term.index 0) (Term.int 128)))))).before args s = true) :
    ∃ (ca : Addr) (kca : ClassId) (cvs : List Value), Sta s s.heap "java/lang/Long$LongCache" "cache" "[Ljava/lang/Long;" (.ref ca) ∧ Arv s s.heap ca kca (.object "java/lang/Long") (256 : Int32) cvs .null ∧ ∀ i, i < 256 → ∃ r, cvs.getD i .null = .ref r ∧ Exa s s.heap r "java/lang/Long" := by
  obtain ⟨v, ev, -⟩ := static_fit hf w3 (ty := .array (.object "java/lang/Long")) (by decide)
  obtain ⟨a, cell, rfl, hA, harr, hvm⟩ := Jvm.Free.IntBox.arrayOf_fwd w5 ev
  have hat := Jvm.Free.IntBox.arrayAt_of hA harr hvm
  obtain ⟨hsz, hsize⟩ := Jvm.Free.IntBox.length_fwd w6 ev hA harr hvm
  have h256 : cell.slots.size = 256 := by
    have e : (cell.slots.size.toInt32).toInt = cell.slots.size := by
      have : (cell.slots.size.toInt32).toInt = (cell.slots.size : Int).bmod (2 ^ 32) := by simp [Nat.toInt32, Int32.size]
      rw [this]; simp [Int.bmod]; omega
    rw [hsize] at e
    have : ((256 : Int32)).toInt = 256 := by decide
    omega
  have hall := Cond.all_elim ev hat (Cond.before_iff.mp w7)
  have hel : ∀ i, i < 256 → ∃ r, cell.slots[i]? = some (.ref r) ∧ Exa s s.heap r "java/lang/Long" := fun i hi => by
    obtain ⟨q1, -⟩ := and_e (hall i (by rw [h256]; exact hi))
    obtain ⟨r, er⟩ := exa_v q1
    refine ⟨r, ?_, exa_at er q1⟩
    have evi : (Term.static "java/lang/Long$LongCache" "cache" "[Ljava/lang/Long;").eval args s none [i] s = some (.ref a) := ev
    obtain ⟨hnn, hback⟩ := Jvm.Free.IntBox.place_nonneg i hi
    have e2 : ∀ t : Term, t.eval args s none [i] s = some (.ref a) → (Term.elem t (.index 0)).eval args s none [i] s = cell.slots[i]? := fun t ht => by
      simp [Term.eval, ht, hnn, hat, hback]
    rw [← e2 _ evi]; exact er
  refine ⟨a, cell.cls, cell.slots.toList, Sta.start ev (Or.inr ⟨wI, w3⟩), ⟨cell, ⟨hA, harr, hvm⟩, rfl, by rw [h256]; decide, by decide, fun k hk => ?_, fun k hk => ?_⟩, fun i hi => ?_⟩
  · rw [List.getD_eq_getElem?_getD, Array.getElem?_toList, Array.getElem?_eq_getElem hk]; rfl
  · obtain ⟨r, e, -⟩ := hel k (by rw [← h256]; exact hk)
    rw [List.getD_eq_getElem?_getD, Array.getElem?_toList, e]; rfl
  · obtain ⟨r, e, E⟩ := hel i hi
    exact ⟨r, by rw [List.getD_eq_getElem?_getD, Array.getElem?_toList, e]; rfl, E⟩
def own_bs (cs : List Int32) : List Value := (cs.map (fun c => c.toInt8.toInt32)).map Value.int
theorem own_placeL (x : Int64) (h1 : ¬ (lcmpW x (-128 : Int64)) < (0 : Int32)) (h2 : ¬ (0 : Int32) < (lcmpW x (127 : Int64))) : (¬ (x.toInt32 + (128 : Int32)) < 0 ∧ (x.toInt32 + (128 : Int32)) < (256 : Int32)) ∧ (x.toInt32 + (128 : Int32)).toNatClampNeg < 256 := by
  have a1 : ¬ x < (-128 : Int64) := fun q => h1 (by
    have n1 : ¬ (-128 : Int64) < x := Int64.not_lt.mpr (Int64.le_of_lt q)
    have n2 : ¬ x = (-128 : Int64) := fun e => by subst e; exact absurd q (by decide)
    simp only [lcmpW, if_neg n1, if_neg n2]; decide)
  have a2 : ¬ (127 : Int64) < x := fun q => h2 (by simp only [lcmpW, if_pos q]; decide)
  rw [Int64.lt_iff_toInt_lt] at a1 a2
  have e1 : (-128 : Int64).toInt = -128 := rfl
  have e2 : (127 : Int64).toInt = 127 := rfl
  have e3 : x.toInt32.toInt = x.toInt := by rw [Int64.toInt_toInt32]; simp [Int.bmod]; omega
  refine own_place x.toInt32 ?_ ?_ <;> rw [Int32.lt_iff_toInt_lt]
  · have e4 : (-128 : Int32).toInt = -128 := rfl
    omega
  · have e4 : (127 : Int32).toInt = 127 := rfl
    omega
end Common
end Jvm.OwnKit

/- laws to paste: Road.backV (cut by pick.py; bodies as the Statement names them) -/
namespace Jvm.Pilot.@@N@@
namespace StrChars
open Jvm Sem ClassFile Op Lib Jvm.Stand Jvm.Free.XT Jvm.Free.ALB Jvm.Free.JM Jvm.Free
open Jvm.Lib.Cold (StaticIs)
/-- a char array whose places are chars -/
def Ch (a : Addr) (A : Cell) (U : State) : Prop := Arr .char a A U ∧ Typed .char A
theorem Ch.mv {a : Addr} {A : Cell} {U U' : State} (h : Ch a A U) (hal : U.vm.Alike U'.vm) (hh : U'.heap = U.heap) : Ch a A U' := ⟨h.1.mv hal hh, h.2⟩
theorem Ch.keep {a : Addr} {A : Cell} {U U' : State} (h : Ch a A U) (hal : U.vm.Alike U'.vm) (hk : U'.heap[a]? = some A) : Ch a A U' := ⟨h.1.keep hal hk, h.2⟩
/-- what place i of a char[]'s cell holds -/
def cv (A : Cell) (i : Nat) : Int32 := match A.slots[i]? with | some (.int x) => x | _ => 0
theorem Ch.get {a : Addr} {A : Cell} {U : State} (h : Ch a A U) {i : Nat} (hi : i < A.slots.size) : A.slots[i]? = some (.int (cv A i)) := by
  have e := Array.getElem?_eq_getElem hi
  have f := h.2 i _ e
  unfold cv; rw [e]
  generalize A.slots[i] = v at f
  cases v <;> simp [fits] at f ⊢
/-- the byte that i2b leaves of a char -/
def lo8 (x : Int32) : Int32 := x.toInt8.toInt32
theorem fits_lo8 (y : Int32) : fits .byte (.int (lo8 y)) = true := by
  have h1 := y.toInt8.le_toInt
  have h2 := y.toInt8.toInt_lt
  simp only [lo8, fits, Bool.and_eq_true, decide_eq_true_eq, Int32.le_iff_toInt_le, Int8.toInt_toInt32, show (-128 : Int32).toInt = -128 from by decide, show (127 : Int32).toInt = 127 from by decide]
  omega
/-- A' is A but that each place j of lo .. hi - 1 holds f j -/
def Laid (A A' : Cell) (lo hi : Nat) (f : Nat → Value) : Prop := A'.cls = A.cls ∧ A'.vm = A.vm ∧ A'.slots.size = A.slots.size ∧ ∀ i, A'.slots[i]? = if lo ≤ i ∧ i < hi then some (f i) else A.slots[i]?
theorem Laid.zero (A : Cell) (lo : Nat) (f : Nat → Value) : Laid A A lo (lo + 0) f := ⟨rfl, rfl, rfl, fun i => by rw [if_neg (by omega)]⟩
theorem Laid.step {A Ak : Cell} {lo k : Nat} {f : Nat → Value} {v : Value} (h : Laid A Ak lo k f) (hlo : lo ≤ k) (hk : k < Ak.slots.size) (hv : v = f k) : Laid A (Ak.setSlot k v) lo (k + 1) f := by
  refine ⟨h.1, h.2.1, by simpa [Cell.setSlot] using h.2.2.1, fun i => ?_⟩
  by_cases e : k = i
  · subst e; rw [Cell.slots_setSlot_self v hk, if_pos (by omega), hv]
  · rw [Cell.slots_setSlot_ne v e, h.2.2.2 i]
    by_cases q : lo ≤ i ∧ i < k
    · rw [if_pos q, if_pos (by omega)]
    · rw [if_neg q, if_neg (by omega)]
def U16 : String := "java/lang/StringUTF16"
namespace Cmp5
def yN : MethodName := ⟨"java/lang/StringUTF16", "compress", "([CI[BII)I"⟩
abbrev yB : ByteArray := jdk_52_method_21_code
theorem d0 : decode yB 0 = .ok (.iconst 0, 1) := by decide +kernel
theorem d1 : decode yB 1 = .ok (.istore 5, 2) := by decide +kernel
theorem d3 : decode yB 3 = .ok (.iload 5, 2) := by decide +kernel
theorem d5 : decode yB 5 = .ok (.iload 4, 2) := by decide +kernel
theorem d7 : decode yB 7 = .ok (.if_icmp (.ge) 37, 3) := by decide +kernel
theorem d10 : decode yB 10 = .ok (.aload_n 0, 1) := by decide +kernel
theorem d11 : decode yB 11 = .ok (.iload_n 1, 1) := by decide +kernel
theorem d12 : decode yB 12 = .ok (.caload, 1) := by decide +kernel
theorem d13 : decode yB 13 = .ok (.istore 6, 2) := by decide +kernel
theorem d15 : decode yB 15 = .ok (.iload 6, 2) := by decide +kernel
theorem d17 : decode yB 17 = .ok (.sipush 255, 3) := by decide +kernel
theorem d20 : decode yB 20 = .ok (.if_icmp (.le) 6, 3) := by decide +kernel
theorem d26 : decode yB 26 = .ok (.aload_n 2, 1) := by decide +kernel
theorem d27 : decode yB 27 = .ok (.iload_n 3, 1) := by decide +kernel
theorem d28 : decode yB 28 = .ok (.iload 6, 2) := by decide +kernel
theorem d30 : decode yB 30 = .ok (.i2b, 1) := by decide +kernel
theorem d31 : decode yB 31 = .ok (.bastore, 1) := by decide +kernel
theorem d32 : decode yB 32 = .ok (.iinc 1 1, 3) := by decide +kernel
theorem d35 : decode yB 35 = .ok (.iinc 3 1, 3) := by decide +kernel
theorem d38 : decode yB 38 = .ok (.iinc 5 1, 3) := by decide +kernel
theorem d41 : decode yB 41 = .ok (.goto (-38), 3) := by decide +kernel
theorem d44 : decode yB 44 = .ok (.iload 4, 2) := by decide +kernel
theorem d46 : decode yB 46 = .ok (.ireturn, 1) := by decide +kernel
def site : List Cond := []
def tab : Cond := tabOf yN yB 7 (some .int) site
def P (b : Addr) (A : Cell) (d : Addr) (B : Cell) (o q len : Nat) (args : Array Value) (s : State) : Prop := args = #[.ref b, .int (Int32.ofNat o), .ref d, .int (Int32.ofNat q), .int (Int32.ofNat len)] ∧ Ch b A s ∧ Arr .byte d B s ∧ b ≠ d ∧ o + len ≤ A.slots.size ∧ q + len ≤ B.slots.size ∧ ∀ i, i < len → ¬ 255 < cv A (o + i)
def E (b : Addr) (A : Cell) (d : Addr) (B : Cell) (o q len : Nat) (r : Option Value) (s u : State) : Prop := r = some (.int (Int32.ofNat len)) ∧ ∃ B', Put d B' s u ∧ Laid B B' q (q + len) (fun j => Value.int (lo8 (cv A (o + (j - q)))))
/-- no char of the range above 255: len; the places written hold each char's low byte -/
theorem law (l : Launch) (b : Addr) (A : Cell) (d : Addr) (B : Cell) (o q len : Nat) : Law l yN 5 5 0 0 yB 7 (some .int) site (P b A d B o q len) (E b A d B o q len) (copyLocs d q len) 0 0 := by
  refine Law.of_walk (plainFor_of_name (by decide +kernel)) (by decide +kernel) (by decide +kernel) (by decide) (fun _ _ h => by rw [h.1]; rfl) (fun _ U U' hal hh h => ⟨h.1, h.2.1.mv hal hh, h.2.2.1.mv hal hh, h.2.2.2⟩) (fun r U U' V V' h1 hal h2 h => ⟨h.1, h.2.elim fun B' q => ⟨B', q.1.mv h1 h2, q.2⟩⟩) ?_
  intro p e s m args below meth c s₁ X0 hexec hbytes hml hret hlk hnm hown hh0 W hP
  obtain ⟨rfl, hA, hB, hne, l1, l2, hp⟩ := hP
  have c1 : Steps p.tables e below (s₁.setTop (entryFrame m #[.ref b, .int (Int32.ofNat o), .ref d, .int (Int32.ofNat q), .int (Int32.ofNat len)] 7)) (s₁.setTop (mkF m 0 #[.val (.ref b), .val (.int (Int32.ofNat o)), .val (.ref d), .val (.int (Int32.ofNat q)), .val (.int (Int32.ofNat len)), .unset, .unset] [])) := entry rfl
  have hA0 := hA.1.mv X0.warmed.alike hh0
  have hB0 := hB.mv X0.warmed.alike hh0
  have a31 := hA.1.2.2.2
  have c2 : Steps p.tables e below (s₁.setTop (entryFrame m #[.ref b, .int (Int32.ofNat o), .ref d, .int (Int32.ofNat q), .int (Int32.ofNat len)] 7)) (s₁.setTop (mkF m 3 #[.val (.ref b), .val (.int (Int32.ofNat o)), .val (.ref d), .val (.int (Int32.ofNat q)), .val (.int (Int32.ofNat len)), .val (.int 0), .unset] [])) := c1.trans (by
    refine iconstV X0.here hexec rfl 0 (hb hbytes d0) (by decide) ?_
    refine XS.istore X0.here hexec rfl (hb hbytes d1) rfl rfl ?_
    exact Steps.refl _)
  have loop : ∀ (r i : Nat), i + r = len → ∀ (z : Slot), (z = .unset ∨ ∃ w, z = .val w ∧ w.category = 1) → ∀ (Tl : State) (Bk : Cell), Stand p l e { frames := 0, locals := 0, cells := 0, slots := 0 } s m #[.ref b, .int (Int32.ofNat o), .ref d, .int (Int32.ofNat q), .int (Int32.ofNat len)] below meth c Tl ([] ++ copyLocs d q i) 0 0 → Put d Bk s₁ Tl → Laid B Bk q (q + i) (fun j => Value.int (lo8 (cv A (o + (j - q))))) →
      Steps p.tables e below (s₁.setTop (entryFrame m #[.ref b, .int (Int32.ofNat o), .ref d, .int (Int32.ofNat q), .int (Int32.ofNat len)] 7)) (Tl.setTop (mkF m 3 #[.val (.ref b), .val (.int (Int32.ofNat (o + i))), .val (.ref d), .val (.int (Int32.ofNat (q + i))), .val (.int (Int32.ofNat len)), .val (.int (Int32.ofNat i)), z] [])) → ∃ (T' : State) (B' : Cell) (z' : Slot), Stand p l e { frames := 0, locals := 0, cells := 0, slots := 0 } s m #[.ref b, .int (Int32.ofNat o), .ref d, .int (Int32.ofNat q), .int (Int32.ofNat len)] below meth c T' ([] ++ copyLocs d q len) 0 0 ∧ Put d B' s₁ T' ∧ Laid B B' q (q + len) (fun j => Value.int (lo8 (cv A (o + (j - q))))) ∧
      Steps p.tables e below (s₁.setTop (entryFrame m #[.ref b, .int (Int32.ofNat o), .ref d, .int (Int32.ofNat q), .int (Int32.ofNat len)] 7)) (T'.setTop (mkF m 3 #[.val (.ref b), .val (.int (Int32.ofNat (o + len))), .val (.ref d), .val (.int (Int32.ofNat (q + len))), .val (.int (Int32.ofNat len)), .val (.int (Int32.ofNat len)), z'] [])) := by
    intro r
    induction r with
    | zero =>
      intro i hi z hz Tl Bk Xl pl fl cl
      have hil : i = len := by omega
      rw [hil] at Xl fl cl
      exact ⟨Tl, Bk, z, Xl, pl, fl, cl⟩
    | succ r ih =>
      intro i hi z hz Tl Bk Xl pl fl cl
      have all := X0.warmed.alike.symm.trans Xl.warmed.alike
      have hAl := hA0.keep all (pl.other hne hA0.1)
      have hBk := hB0.like all pl.1 fl.1 fl.2.1 fl.2.2.1
      have hlt : q + i < Bk.slots.size := by rw [fl.2.2.1]; omega
      have c3 : Steps p.tables e below (s₁.setTop (entryFrame m #[.ref b, .int (Int32.ofNat o), .ref d, .int (Int32.ofNat q), .int (Int32.ofNat len)] 7)) (Tl.setTop (mkF m 12 #[.val (.ref b), .val (.int (Int32.ofNat (o + i))), .val (.ref d), .val (.int (Int32.ofNat (q + i))), .val (.int (Int32.ofNat len)), .val (.int (Int32.ofNat i)), z] [.int (Int32.ofNat (o + i)), .ref b])) := cl.trans (by
        refine XS.iload Xl.here hexec rfl (hb hbytes d3) rfl ?_
        refine XS.iload Xl.here hexec rfl (hb hbytes d5) rfl ?_
        refine XS.icmpNo Xl.here hexec rfl (hb hbytes d7) rfl (ii_ge_f (lt32 (by omega) (by omega))) ?_
        refine XS.aloadN Xl.here hexec rfl (hb hbytes d10) rfl rfl ?_
        refine XS.iloadN Xl.here hexec rfl (hb hbytes d11) rfl ?_
        exact Steps.refl _)
      have c4 : Steps p.tables e below (s₁.setTop (entryFrame m #[.ref b, .int (Int32.ofNat o), .ref d, .int (Int32.ofNat q), .int (Int32.ofNat len)] 7)) (Tl.setTop (mkF m 13 #[.val (.ref b), .val (.int (Int32.ofNat (o + i))), .val (.ref d), .val (.int (Int32.ofNat (q + i))), .val (.int (Int32.ofNat len)), .val (.int (Int32.ofNat i)), z] [.int (cv A (o + i))])) := c3.trans (by
        refine Xl.aget hexec hAl rfl (hA.get (i := o + i) (by omega)) rfl rfl (hb hbytes d12) ?_
        exact Steps.refl _)
      have c5 : Steps p.tables e below (s₁.setTop (entryFrame m #[.ref b, .int (Int32.ofNat o), .ref d, .int (Int32.ofNat q), .int (Int32.ofNat len)] 7)) (Tl.setTop (mkF m 15 #[.val (.ref b), .val (.int (Int32.ofNat (o + i))), .val (.ref d), .val (.int (Int32.ofNat (q + i))), .val (.int (Int32.ofNat len)), .val (.int (Int32.ofNat i)), .val (.int (cv A (o + i)))] [])) := c4.trans (by
        refine XS.istoreS Xl.here hexec rfl (hb hbytes d13) rfl rfl hz ?_
        exact Steps.refl _)
      have c6 : Steps p.tables e below (s₁.setTop (entryFrame m #[.ref b, .int (Int32.ofNat o), .ref d, .int (Int32.ofNat q), .int (Int32.ofNat len)] 7)) (Tl.setTop (mkF m 31 #[.val (.ref b), .val (.int (Int32.ofNat (o + i))), .val (.ref d), .val (.int (Int32.ofNat (q + i))), .val (.int (Int32.ofNat len)), .val (.int (Int32.ofNat i)), .val (.int (cv A (o + i)))] [.int (lo8 (cv A (o + i))), .int (Int32.ofNat (q + i)), .ref d])) := c5.trans (by
        refine XS.iload Xl.here hexec rfl (hb hbytes d15) rfl ?_
        refine sipushV Xl.here hexec rfl 255 (hb hbytes d17) (by decide) ?_
        refine XS.icmpYes Xl.here hexec rfl (pc0 := 20) rfl (hb hbytes d20) rfl (ii_le_t (hp i (by omega))) (by decide) rfl ?_
        refine XS.aloadN Xl.here hexec rfl (hb hbytes d26) rfl rfl ?_
        refine XS.iloadN Xl.here hexec rfl (hb hbytes d27) rfl ?_
        refine XS.iload Xl.here hexec rfl (hb hbytes d28) rfl ?_
        refine i2b Xl.here hexec rfl (hb hbytes d30) rfl ?_
        exact Steps.refl _)
      obtain ⟨T7, X7, p7, st7⟩ := Xl.aput hexec hBk rfl hlt rfl (fits_lo8 (cv A (o + i))) (g := (mkF m 31 #[.val (.ref b), .val (.int (Int32.ofNat (o + i))), .val (.ref d), .val (.int (Int32.ofNat (q + i))), .val (.int (Int32.ofNat len)), .val (.int (Int32.ofNat i)), .val (.int (cv A (o + i)))] [.int (lo8 (cv A (o + i))), .int (Int32.ofNat (q + i)), .ref d])) rfl (rest := []) rfl (hb hbytes d31)
      have c8 : Steps p.tables e below (s₁.setTop (entryFrame m #[.ref b, .int (Int32.ofNat o), .ref d, .int (Int32.ofNat q), .int (Int32.ofNat len)] 7)) (T7.setTop (mkF m 32 #[.val (.ref b), .val (.int (Int32.ofNat (o + i))), .val (.ref d), .val (.int (Int32.ofNat (q + i))), .val (.int (Int32.ofNat len)), .val (.int (Int32.ofNat i)), .val (.int (cv A (o + i)))] [])) := c6.trans (st7 _ (Steps.refl _))
      have c9 : Steps p.tables e below (s₁.setTop (entryFrame m #[.ref b, .int (Int32.ofNat o), .ref d, .int (Int32.ofNat q), .int (Int32.ofNat len)] 7)) (T7.setTop (mkF m 3 #[.val (.ref b), .val (.int (Int32.ofNat (o + i) + 1)), .val (.ref d), .val (.int (Int32.ofNat (q + i) + 1)), .val (.int (Int32.ofNat len)), .val (.int (Int32.ofNat i + 1)), .val (.int (cv A (o + i)))] [])) := c8.trans (by
        refine iincV X7.here hexec rfl 1 (hb hbytes d32) (by decide) rfl rfl ?_
        refine iincV X7.here hexec rfl 1 (hb hbytes d35) (by decide) rfl rfl ?_
        refine iincV X7.here hexec rfl 1 (hb hbytes d38) (by decide) rfl rfl ?_
        refine XS.goto X7.here hexec rfl (pc0 := 41) rfl (hb hbytes d41) (by decide) rfl ?_
        exact Steps.refl _)
      have c10 : Steps p.tables e below (s₁.setTop (entryFrame m #[.ref b, .int (Int32.ofNat o), .ref d, .int (Int32.ofNat q), .int (Int32.ofNat len)] 7)) (T7.setTop (mkF m 3 #[.val (.ref b), .val (.int (Int32.ofNat (o + (i + 1)))), .val (.ref d), .val (.int (Int32.ofNat (q + (i + 1)))), .val (.int (Int32.ofNat len)), .val (.int (Int32.ofNat (i + 1))), .val (.int (cv A (o + i)))] [])) := by
        have := c9
        rw [succ32, succ32, succ32] at this
        exact this
      exact ih (i + 1) (by omega) _ (Or.inr ⟨_, rfl, rfl⟩) T7 _ (by rw [copyLocs_step, ← List.append_assoc]; exact X7) (pl.trans p7) (fl.step (by omega) hlt (by simp)) c10
  obtain ⟨T9, B9, z9, X9, p9, f9, g9⟩ := loop len 0 (by omega) .unset (Or.inl rfl) s₁ B (by simpa [copyLocs] using X0) ⟨hB0.1, fun _ _ => rfl, rfl⟩ (Laid.zero _ _ _) c2
  have c11 : Steps p.tables e below (s₁.setTop (entryFrame m #[.ref b, .int (Int32.ofNat o), .ref d, .int (Int32.ofNat q), .int (Int32.ofNat len)] 7)) (T9.setTop (mkF m 46 #[.val (.ref b), .val (.int (Int32.ofNat (o + len))), .val (.ref d), .val (.int (Int32.ofNat (q + len))), .val (.int (Int32.ofNat len)), .val (.int (Int32.ofNat len)), z9] [.int (Int32.ofNat len)])) := g9.trans (by
    refine XS.iload X9.here hexec rfl (hb hbytes d3) rfl ?_
    refine XS.iload X9.here hexec rfl (hb hbytes d5) rfl ?_
    refine XS.icmpYes X9.here hexec rfl (pc0 := 7) rfl (hb hbytes d7) rfl (ii_ge_t (nlt32 (by omega) (Nat.le_refl _))) (by decide) rfl ?_
    refine XS.iload X9.here hexec rfl (hb hbytes d44) rfl ?_
    exact Steps.refl _)
  exact ⟨T9, some (.int (Int32.ofNat len)), _, _, _, X9, by simp, rfl, rfl, (fun h => by cases h), ⟨rfl, B9, p9.from hh0, f9⟩, fun fs hl => c11.trans (X9.ireturnOut hexec hret rfl (Or.inl rfl) (hb hbytes d46) hl)⟩
end Cmp5
namespace Cmp3
def yN : MethodName := ⟨"java/lang/StringUTF16", "compress", "([CII)[B"⟩
abbrev yB : ByteArray := jdk_52_method_16_code
theorem d0 : decode yB 0 = .ok (.iload_n 2, 1) := by decide +kernel
theorem d1 : decode yB 1 = .ok (.newarray .byte, 2) := by decide +kernel
theorem d3 : decode yB 3 = .ok (.astore_n 3, 1) := by decide +kernel
theorem d4 : decode yB 4 = .ok (.aload_n 0, 1) := by decide +kernel
theorem d5 : decode yB 5 = .ok (.iload_n 1, 1) := by decide +kernel
theorem d6 : decode yB 6 = .ok (.aload_n 3, 1) := by decide +kernel
theorem d7 : decode yB 7 = .ok (.iconst 0, 1) := by decide +kernel
theorem d8 : decode yB 8 = .ok (.iload_n 2, 1) := by decide +kernel
theorem d9 : decode yB 9 = .ok (.invokestatic 115, 3) := by decide +kernel
theorem d12 : decode yB 12 = .ok (.istore 4, 2) := by decide +kernel
theorem d14 : decode yB 14 = .ok (.iload 4, 2) := by decide +kernel
theorem d16 : decode yB 16 = .ok (.iload_n 2, 1) := by decide +kernel
theorem d17 : decode yB 17 = .ok (.if_icmp (.eq) 40, 3) := by decide +kernel
theorem d57 : decode yB 57 = .ok (.aload_n 3, 1) := by decide +kernel
theorem d58 : decode yB 58 = .ok (.areturn, 1) := by decide +kernel
def site : List Cond := [.arrayClass .byte, Cmp5.tab] ++ staticW U16 115 Cmp5.yN
def tab : Cond := tabOf yN yB 6 (some (.array .byte)) site
def P (b : Addr) (A : Cell) (o len : Nat) (args : Array Value) (s : State) : Prop := args = #[.ref b, .int (Int32.ofNat o), .int (Int32.ofNat len)] ∧ Ch b A s ∧ o + len ≤ A.slots.size ∧ len ≤ 536870912 ∧ ∀ i, i < len → ¬ 255 < cv A (o + i)
def E (b : Addr) (A : Cell) (o len : Nat) (r : Option Value) (s u : State) : Prop := NewArr .byte "[B" len (fun j => .int (lo8 (cv A (o + j)))) r s u ∧ u.heap.size = s.heap.size + 1
/-- no char of the range above 255: a new byte[] of their low bytes -/
theorem law (l : Launch) (b : Addr) (A : Cell) (o len : Nat) : Law l yN 3 3 1 18 yB 6 (some (.array .byte)) site (P b A o len) (E b A o len) [] 1 len := by
  refine Law.of_walk (plainFor_of_name (by decide +kernel)) (by decide +kernel) (by decide +kernel) (by decide) (fun _ _ h => by rw [h.1]; rfl) (fun _ U U' hal hh h => ⟨h.1, h.2.1.mv hal hh, h.2.2⟩) (fun r U U' V V' h1 hal h2 h => ⟨NewArr.mv r U U' V V' h1 hal h2 h.1, by rw [h1, h2]; exact h.2⟩) ?_
  intro p e s m args below meth c s₁ X0 hexec hbytes hml hret hlk hnm hown hh0 W hP
  obtain ⟨rfl, hA, l1, l2, hp⟩ := hP
  have a31 := hA.1.2.2.2
  have c1 : Steps p.tables e below (s₁.setTop (entryFrame m #[.ref b, .int (Int32.ofNat o), .int (Int32.ofNat len)] 6)) (s₁.setTop (mkF m 0 #[.val (.ref b), .val (.int (Int32.ofNat o)), .val (.int (Int32.ofNat len)), .unset, .unset, .unset] [])) := entry rfl
  have c2 : Steps p.tables e below (s₁.setTop (entryFrame m #[.ref b, .int (Int32.ofNat o), .int (Int32.ofNat len)] 6)) (s₁.setTop (mkF m 1 #[.val (.ref b), .val (.int (Int32.ofNat o)), .val (.int (Int32.ofNat len)), .unset, .unset, .unset] [.int (Int32.ofNat len)])) := c1.trans (by
    refine XS.iloadN X0.here hexec rfl (hb hbytes d0) rfl ?_
    exact Steps.refl _)
  obtain ⟨T3, B3, X3, ba3, bs3, bv3, bh3, bf3, st3⟩ := X0.anew hexec (atype := .byte) (wk W (.arrayClass .byte)) rfl (by show len * 1 ≤ _; omega) (by omega) (g := (mkF m 1 #[.val (.ref b), .val (.int (Int32.ofNat o)), .val (.int (Int32.ofNat len)), .unset, .unset, .unset] [.int (Int32.ofNat len)])) rfl (hb hbytes d1) (rest := []) rfl (Nat.le_refl _) (by show 0 + len ≤ len; omega)
  rw [hh0] at ba3 st3
  have kp3 : XT.Kept s T3 := (XT.Kept.of_eq hh0).push bh3
  have hA3 := hA.keep X3.warmed.alike (kp3 _ _ hA.1.1)
  have hne : b ≠ s.heap.size := hA.1.ne
  have c4 : Steps p.tables e below (s₁.setTop (entryFrame m #[.ref b, .int (Int32.ofNat o), .int (Int32.ofNat len)] 6)) (T3.setTop (mkF m 3 #[.val (.ref b), .val (.int (Int32.ofNat o)), .val (.int (Int32.ofNat len)), .unset, .unset, .unset] [.ref s.heap.size])) := c2.trans (st3 _ (Steps.refl _))
  have c5 : Steps p.tables e below (s₁.setTop (entryFrame m #[.ref b, .int (Int32.ofNat o), .int (Int32.ofNat len)] 6)) (T3.setTop (mkF m 9 #[.val (.ref b), .val (.int (Int32.ofNat o)), .val (.int (Int32.ofNat len)), .val (.ref s.heap.size), .unset, .unset] [.int (Int32.ofNat len), .int 0, .ref s.heap.size, .int (Int32.ofNat o), .ref b])) := c4.trans (by
    refine XS.astoreN X3.here hexec rfl (hb hbytes d3) rfl rfl rfl ?_
    refine XS.aloadN X3.here hexec rfl (hb hbytes d4) rfl rfl ?_
    refine XS.iloadN X3.here hexec rfl (hb hbytes d5) rfl ?_
    refine XS.aloadN X3.here hexec rfl (hb hbytes d6) rfl rfl ?_
    refine iconstV X3.here hexec rfl 0 (hb hbytes d7) (by decide) ?_
    refine XS.iloadN X3.here hexec rfl (hb hbytes d8) rfl ?_
    exact Steps.refl _)
  obtain ⟨v6, T6, X6, E6, g6⟩ := X3.callS hexec (Cmp5.law l b A s.heap.size B3 o 0 len) hown (wks W (staticW U16 115 Cmp5.yN)) (wk W Cmp5.tab) (W := 0) (Nat.le_of_ble_eq_true rfl) (Nat.le_of_ble_eq_true rfl) (Nat.le_refl _) (by show 0 + len + 0 ≤ len; omega) (g := (mkF m 9 #[.val (.ref b), .val (.int (Int32.ofNat o)), .val (.int (Int32.ofNat len)), .val (.ref s.heap.size), .unset, .unset] [.int (Int32.ofNat len), .int (Int32.ofNat 0), .ref s.heap.size, .int (Int32.ofNat o), .ref b])) rfl (by rw [hml]; rfl) c5 (argsL := [.ref b, .int (Int32.ofNat o), .ref s.heap.size, .int (Int32.ofNat 0), .int (Int32.ofNat len)]) (rest := []) rfl rfl (by show 2 * 0 + 0 ≤ _; decide) (hb hbytes d9) (⟨rfl, hA3, ba3, hne, l1, by rw [bs3]; simp, hp⟩)
  obtain ⟨rfl, B6, p6, f6⟩ := E6
  have c7 : Steps p.tables e below (s₁.setTop (entryFrame m #[.ref b, .int (Int32.ofNat o), .int (Int32.ofNat len)] 6)) (T6.setTop (mkF m 12 #[.val (.ref b), .val (.int (Int32.ofNat o)), .val (.int (Int32.ofNat len)), .val (.ref s.heap.size), .unset, .unset] [.int (Int32.ofNat len)])) := g6
  have c8 : Steps p.tables e below (s₁.setTop (entryFrame m #[.ref b, .int (Int32.ofNat o), .int (Int32.ofNat len)] 6)) (T6.setTop (mkF m 58 #[.val (.ref b), .val (.int (Int32.ofNat o)), .val (.int (Int32.ofNat len)), .val (.ref s.heap.size), .val (.int (Int32.ofNat len)), .unset] [.ref s.heap.size])) := c7.trans (by
    refine XS.istore X6.here hexec rfl (hb hbytes d12) rfl rfl ?_
    refine XS.iload X6.here hexec rfl (hb hbytes d14) rfl ?_
    refine XS.iloadN X6.here hexec rfl (hb hbytes d16) rfl ?_
    refine XS.icmpYes X6.here hexec rfl (pc0 := 17) rfl (hb hbytes d17) rfl (ii_eq_t rfl) (by decide) rfl ?_
    refine XS.aloadN X6.here hexec rfl (hb hbytes d57) rfl rfl ?_
    exact Steps.refl _)
  have X8 := X6.wide (L' := []) (cells' := 1) (slots' := len) (fun x hx hlt => by
    simp only [List.nil_append, copyLocs, List.mem_map, List.mem_range] at hx
    obtain ⟨i, -, rfl⟩ := hx
    exact absurd hlt (Nat.lt_irrefl _)) (Nat.le_refl _) (by omega)
  exact ⟨T6, some (.ref s.heap.size), _, _, _, X8, rfl, rfl, rfl, (fun h => by cases h), ⟨⟨rfl, B6, ba3.like (X3.warmed.alike.symm.trans X6.warmed.alike) p6.1 f6.1 f6.2.1 f6.2.2.1, f6.2.1.trans bv3, by rw [X6.warmed.alike.findClass, f6.1]; exact bf3, by rw [f6.2.2.1, bs3]; simp, fun j hj => by rw [f6.2.2.2 j, if_pos (by omega)]; rfl, kp3.put p6 (Nat.le_refl _)⟩, by rw [p6.2.2, bh3, hh0]; simp⟩, fun fs hl => c8.trans (X8.areturnOut hexec rfl hret rfl (hb hbytes d58) hl)⟩
end Cmp3
namespace CodL
def yN : MethodName := ⟨"java/lang/StringUTF16", "coderFromArrayLen", "([BI)B"⟩
abbrev yB : ByteArray := jdk_52_method_15_code
theorem d0 : decode yB 0 = .ok (.iload_n 1, 1) := by decide +kernel
theorem d1 : decode yB 1 = .ok (.aload_n 0, 1) := by decide +kernel
theorem d2 : decode yB 2 = .ok (.arraylength, 1) := by decide +kernel
theorem d3 : decode yB 3 = .ok (.isub, 1) := by decide +kernel
theorem d4 : decode yB 4 = .ok (.bipush 31, 2) := by decide +kernel
theorem d6 : decode yB 6 = .ok (.iushr, 1) := by decide +kernel
theorem d7 : decode yB 7 = .ok (.i2b, 1) := by decide +kernel
theorem d8 : decode yB 8 = .ok (.ireturn, 1) := by decide +kernel
def site : List Cond := []
def tab : Cond := tabOf yN yB 2 (some .byte) site
def P (d : Addr) (B : Cell) (args : Array Value) (s : State) : Prop := args = #[.ref d, .int (Int32.ofNat B.slots.size)] ∧ Arr .byte d B s
def E (r : Option Value) (s u : State) : Prop := XT.PureE (some (.int 0)) r s u
/-- an array as long as the number of chars: LATIN1 -/
theorem law (l : Launch) (d : Addr) (B : Cell) : Law l yN 2 2 0 0 yB 2 (some .byte) site (P d B) E [] 0 0 := by
  refine Law.of_walk (plainFor_of_name (by decide +kernel)) (by decide +kernel) (by decide +kernel) (by decide) (fun _ _ h => by rw [h.1]; rfl) (fun _ U U' hal hh h => ⟨h.1, h.2.mv hal hh⟩) (fun r U U' V V' h1 hal h2 h => XT.PureE.mv r U U' V V' h1 hal h2 h) ?_
  intro p e s m args below meth c s₁ X0 hexec hbytes hml hret hlk hnm hown hh0 W hP
  obtain ⟨rfl, hB⟩ := hP
  have hB0 := hB.mv X0.warmed.alike hh0
  have c1 : Steps p.tables e below (s₁.setTop (entryFrame m #[.ref d, .int (Int32.ofNat B.slots.size)] 2)) (s₁.setTop (mkF m 0 #[.val (.ref d), .val (.int (Int32.ofNat B.slots.size))] [])) := entry rfl
  have c2 : Steps p.tables e below (s₁.setTop (entryFrame m #[.ref d, .int (Int32.ofNat B.slots.size)] 2)) (s₁.setTop (mkF m 2 #[.val (.ref d), .val (.int (Int32.ofNat B.slots.size))] [.ref d, .int (Int32.ofNat B.slots.size)])) := c1.trans (by
    refine XS.iloadN X0.here hexec rfl (hb hbytes d0) rfl ?_
    refine XS.aloadN X0.here hexec rfl (hb hbytes d1) rfl rfl ?_
    exact Steps.refl _)
  have c3 : Steps p.tables e below (s₁.setTop (entryFrame m #[.ref d, .int (Int32.ofNat B.slots.size)] 2)) (s₁.setTop (mkF m 8 #[.val (.ref d), .val (.int (Int32.ofNat B.slots.size))] [.int (lo8 (ushr (Int32.ofNat B.slots.size - Int32.ofNat B.slots.size) 31))])) := c2.trans (by
    refine X0.alen hexec hB0 rfl rfl (hb hbytes d2) ?_
    refine XS.isub X0.here hexec rfl (hb hbytes d3) rfl ?_
    refine bipushV X0.here hexec rfl 31 (hb hbytes d4) (by decide) ?_
    refine iushr X0.here hexec rfl (hb hbytes d6) rfl ?_
    refine i2b X0.here hexec rfl (hb hbytes d7) rfl ?_
    exact Steps.refl _)
  have e0 : lo8 (ushr (Int32.ofNat B.slots.size - Int32.ofNat B.slots.size) 31) = 0 := by rw [Int32.sub_self]; decide
  rw [e0] at c3
  exact ⟨s₁, some (.int 0), _, _, _, X0, rfl, rfl, rfl, (fun h => by cases h), ⟨rfl, hh0⟩, fun fs hl => c3.trans (X0.ireturnOut hexec hret rfl (Or.inr (Or.inr (Or.inl rfl))) (hb hbytes d8) hl)⟩
end CodL
/-- the String at a is Latin-1 over a new byte[] (the heap's one new cell): the low bytes of the len chars of A from o on; every cell but a is kept -/
def Got (a : Addr) (D : Cell) (fV fC : Field) (A : Cell) (o len : Nat) (r : Option Value) (s u : State) : Prop := r = none ∧ ∃ D' V : Cell, Blank "java/lang/String" a D' u ∧ Same D D' [fV.slot, fC.slot] ∧ D'.slots[fV.slot]? = some (.ref s.heap.size) ∧ D'.slots[fC.slot]? = some (.int 0) ∧ Arr .byte s.heap.size V u ∧ V.vm = .none ∧ u.vm.findClass "[B" = some V.cls ∧ V.slots.size = len ∧ (∀ j, j < len → V.slots[j]? = some (.int (lo8 (cv A (o + j))))) ∧ (∀ (y : Addr) (c : Cell), y ≠ a → s.heap[y]? = some c → u.heap[y]? = some c) ∧ u.heap.size = s.heap.size + 1
theorem Got.mv {a : Addr} {D A : Cell} {fV fC : Field} {o len : Nat} : ∀ r (U U' V V' : State), U'.heap = U.heap → V.vm.Alike V'.vm → V'.heap = V.heap → Got a D fV fC A o len r U V → Got a D fV fC A o len r U' V' :=
  fun r U U' V V' h1 hal h2 ⟨e0, D', X, a1, a2, a3, a4, a5, a6, a7, a8, a9, a10, a11⟩ => ⟨e0, D', X, a1.mv hal h2, a2, by rw [h1]; exact a3, a4, by rw [h1]; exact a5.mv hal h2, a6, by rw [hal.findClass]; exact a7, a8, a9, by rw [h1, h2]; exact a10, by rw [h1, h2]; exact a11⟩
namespace New4
def yN : MethodName := ⟨"java/lang/String", "<init>", "([CIILjava/lang/Void;)V"⟩
abbrev yB : ByteArray := jdk_42_method_149_code
theorem d0 : decode yB 0 = .ok (.aload_n 0, 1) := by decide +kernel
theorem d1 : decode yB 1 = .ok (.invokespecial 1, 3) := by decide +kernel
theorem d4 : decode yB 4 = .ok (.iload_n 3, 1) := by decide +kernel
theorem d5 : decode yB 5 = .ok (.ifCond (.ne) 22, 3) := by decide +kernel
theorem d27 : decode yB 27 = .ok (.getstatic 38, 3) := by decide +kernel
theorem d30 : decode yB 30 = .ok (.ifCond (.eq) 28, 3) := by decide +kernel
theorem d33 : decode yB 33 = .ok (.aload_n 1, 1) := by decide +kernel
theorem d34 : decode yB 34 = .ok (.iload_n 2, 1) := by decide +kernel
theorem d35 : decode yB 35 = .ok (.iload_n 3, 1) := by decide +kernel
theorem d36 : decode yB 36 = .ok (.invokestatic 177, 3) := by decide +kernel
theorem d39 : decode yB 39 = .ok (.astore 5, 2) := by decide +kernel
theorem d41 : decode yB 41 = .ok (.aload_n 0, 1) := by decide +kernel
theorem d42 : decode yB 42 = .ok (.aload 5, 2) := by decide +kernel
theorem d44 : decode yB 44 = .ok (.iload_n 3, 1) := by decide +kernel
theorem d45 : decode yB 45 = .ok (.invokestatic 47, 3) := by decide +kernel
theorem d48 : decode yB 48 = .ok (.putfield 15, 3) := by decide +kernel
theorem d51 : decode yB 51 = .ok (.aload_n 0, 1) := by decide +kernel
theorem d52 : decode yB 52 = .ok (.aload 5, 2) := by decide +kernel
theorem d54 : decode yB 54 = .ok (.putfield 9, 3) := by decide +kernel
theorem d57 : decode yB 57 = .ok (.return_, 1) := by decide +kernel
def site : List Cond := [.fieldLink "java/lang/String" 38 "java/lang/String" "COMPACT_STRINGS" "Z", Cmp3.tab, CodL.tab, .laysFinal "java/lang/String" "java/lang/String" "value" "[B", .fieldLink "java/lang/String" 9 "java/lang/String" "value" "[B", .laysFinal "java/lang/String" "java/lang/String" "coder" "B", .fieldLink "java/lang/String" 15 "java/lang/String" "coder" "B"] ++ objW "java/lang/String" 1 ++ staticW "java/lang/String" 177 Cmp3.yN ++ staticW "java/lang/String" 47 CodL.yN
def tab : Cond := tabOf yN yB 6 none site
def P (a : Addr) (D : Cell) (fV fC : Field) (b : Addr) (A : Cell) (z : Int32) (o len : Nat) (args : Array Value) (s : State) : Prop := args = #[.ref a, .ref b, .int (Int32.ofNat o), .int (Int32.ofNat len), .null] ∧ Blank "java/lang/String" a D s ∧ Found "java/lang/String" "value" "[B" fV s ∧ Found "java/lang/String" "coder" "B" fC s ∧ Ch b A s ∧ StaticIs s "java/lang/String" "COMPACT_STRINGS" "Z" (.int z) ∧ ¬ z = 0 ∧ 0 < len ∧ o + len ≤ A.slots.size ∧ len ≤ 536870912 ∧ ∀ i, i < len → ¬ 255 < cv A (o + i)
def E (a : Addr) (D : Cell) (fV fC : Field) (A : Cell) (o len : Nat) (r : Option Value) (s u : State) : Prop := Got a D fV fC A o len r s u
/-- len > 0, no char of the range above 255: a Latin-1 String of their low bytes -/
theorem law (l : Launch) (a : Addr) (D : Cell) (fV fC : Field) (b : Addr) (A : Cell) (z : Int32) (o len : Nat) : Law l yN 5 4 2 35 yB 6 none site (P a D fV fC b A z o len) (E a D fV fC A o len) [⟨a, fC.slot⟩, ⟨a, fV.slot⟩] 1 len := by
  refine Law.of_walk (plainFor_of_name (by decide +kernel)) (by decide +kernel) (by decide +kernel) (by decide) (fun _ _ h => by rw [h.1]; rfl) (fun _ U U' hal hh h => ⟨h.1, h.2.1.mv hal hh, h.2.2.1.al hal, h.2.2.2.1.al hal, h.2.2.2.2.1.mv hal hh, h.2.2.2.2.2.1.there hal hh, h.2.2.2.2.2.2⟩) (fun r U U' V V' h1 hal h2 h => Got.mv r U U' V V' h1 hal h2 h) ?_
  intro p e s m args below meth c s₁ X0 hexec hbytes hml hret hlk hnm hown hh0 W hP
  obtain ⟨rfl, hB, f1, f2, hA, s1, hz, l0, l1, l2, hp⟩ := hP
  have a31 := hA.1.2.2.2
  have c1 : Steps p.tables e below (s₁.setTop (entryFrame m #[.ref a, .ref b, .int (Int32.ofNat o), .int (Int32.ofNat len), .null] 6)) (s₁.setTop (mkF m 0 #[.val (.ref a), .val (.ref b), .val (.int (Int32.ofNat o)), .val (.int (Int32.ofNat len)), .val .null, .unset] [])) := entry rfl
  have c2 : Steps p.tables e below (s₁.setTop (entryFrame m #[.ref a, .ref b, .int (Int32.ofNat o), .int (Int32.ofNat len), .null] 6)) (s₁.setTop (mkF m 1 #[.val (.ref a), .val (.ref b), .val (.int (Int32.ofNat o)), .val (.int (Int32.ofNat len)), .val .null, .unset] [.ref a])) := c1.trans (by
    refine XS.aloadN X0.here hexec rfl (hb hbytes d0) rfl rfl ?_
    exact Steps.refl _)
  obtain ⟨T3, X3, q3, st3⟩ := X0.oinit hexec hown (wks W (objW "java/lang/String" 1)) (g := (mkF m 1 #[.val (.ref a), .val (.ref b), .val (.int (Int32.ofNat o)), .val (.int (Int32.ofNat len)), .val .null, .unset] [.ref a])) rfl (by rw [hml]; rfl) (rest := []) rfl (hb hbytes d1) (W := 0) (by show 2 * 0 + 0 ≤ _; decide) (Nat.le_of_ble_eq_true rfl) (Nat.le_of_ble_eq_true rfl)
  have hh3 := q3.trans hh0
  have c4 : Steps p.tables e below (s₁.setTop (entryFrame m #[.ref a, .ref b, .int (Int32.ofNat o), .int (Int32.ofNat len), .null] 6)) (T3.setTop (mkF m 27 #[.val (.ref a), .val (.ref b), .val (.int (Int32.ofNat o)), .val (.int (Int32.ofNat len)), .val .null, .unset] [])) := (c2.trans (st3 _ (Steps.refl _))).trans (by
    refine XS.iloadN X3.here hexec rfl (hb hbytes d4) rfl ?_
    refine XS.ifYes X3.here hexec rfl (pc0 := 5) rfl (hb hbytes d5) rfl (i0_ne_t (nz32 (by omega) l0)) (by decide) rfl ?_
    exact Steps.refl _)
  obtain ⟨T5, X5, q5, st5⟩ := X3.sget hexec hown (wk W (.fieldLink "java/lang/String" 38 "java/lang/String" "COMPACT_STRINGS" "Z")) s1 (fun _ _ h => by rw [hh3]; exact h) (g := (mkF m 27 #[.val (.ref a), .val (.ref b), .val (.int (Int32.ofNat o)), .val (.int (Int32.ofNat len)), .val .null, .unset] [])) rfl (hb hbytes d27)
  have hh5 := q5.trans hh3
  have c6 : Steps p.tables e below (s₁.setTop (entryFrame m #[.ref a, .ref b, .int (Int32.ofNat o), .int (Int32.ofNat len), .null] 6)) (T5.setTop (mkF m 30 #[.val (.ref a), .val (.ref b), .val (.int (Int32.ofNat o)), .val (.int (Int32.ofNat len)), .val .null, .unset] [.int z])) := c4.trans (st5 _ (Steps.refl _))
  have c7 : Steps p.tables e below (s₁.setTop (entryFrame m #[.ref a, .ref b, .int (Int32.ofNat o), .int (Int32.ofNat len), .null] 6)) (T5.setTop (mkF m 36 #[.val (.ref a), .val (.ref b), .val (.int (Int32.ofNat o)), .val (.int (Int32.ofNat len)), .val .null, .unset] [.int (Int32.ofNat len), .int (Int32.ofNat o), .ref b])) := c6.trans (by
    refine XS.ifNo X5.here hexec rfl (hb hbytes d30) rfl (i0_eq_f hz) ?_
    refine XS.aloadN X5.here hexec rfl (hb hbytes d33) rfl rfl ?_
    refine XS.iloadN X5.here hexec rfl (hb hbytes d34) rfl ?_
    refine XS.iloadN X5.here hexec rfl (hb hbytes d35) rfl ?_
    exact Steps.refl _)
  obtain ⟨v8, T8, X8, E8, g8⟩ := X5.callS hexec (Cmp3.law l b A o len) hown (wks W (staticW "java/lang/String" 177 Cmp3.yN)) (wk W Cmp3.tab) (W := 0) (Nat.le_of_ble_eq_true rfl) (Nat.le_of_ble_eq_true rfl) (Nat.le_refl _) (by show 0 + len ≤ len; omega) (g := (mkF m 36 #[.val (.ref a), .val (.ref b), .val (.int (Int32.ofNat o)), .val (.int (Int32.ofNat len)), .val .null, .unset] [.int (Int32.ofNat len), .int (Int32.ofNat o), .ref b])) rfl (by rw [hml]; rfl) c7 (argsL := [.ref b, .int (Int32.ofNat o), .int (Int32.ofNat len)]) (rest := []) rfl rfl (by show 2 * 0 + 0 ≤ _; decide) (hb hbytes d36) (⟨rfl, hA.mv X5.warmed.alike hh5, l1, l2, hp⟩)
  obtain ⟨e8, z8⟩ := E8
  obtain ⟨rfl, N, n1, n2, n3, n4, n5, n6⟩ := NewArr.mv _ T5 s _ _ hh5.symm (Vm.Alike.refl _) rfl e8
  rw [hh5] at z8
  have hB1 := hB.keep X8.warmed.alike (n6 _ _ hB.1)
  have hne : s.heap.size ≠ a := (Nat.ne_of_lt (Array.getElem?_eq_some_iff.mp hB.1).1).symm
  have c9 : Steps p.tables e below (s₁.setTop (entryFrame m #[.ref a, .ref b, .int (Int32.ofNat o), .int (Int32.ofNat len), .null] 6)) (T8.setTop (mkF m 39 #[.val (.ref a), .val (.ref b), .val (.int (Int32.ofNat o)), .val (.int (Int32.ofNat len)), .val .null, .unset] [.ref s.heap.size])) := g8
  have c10 : Steps p.tables e below (s₁.setTop (entryFrame m #[.ref a, .ref b, .int (Int32.ofNat o), .int (Int32.ofNat len), .null] 6)) (T8.setTop (mkF m 45 #[.val (.ref a), .val (.ref b), .val (.int (Int32.ofNat o)), .val (.int (Int32.ofNat len)), .val .null, .val (.ref s.heap.size)] [.int (Int32.ofNat N.slots.size), .ref s.heap.size, .ref a])) := by
    have hc : Steps p.tables e below (s₁.setTop (entryFrame m #[.ref a, .ref b, .int (Int32.ofNat o), .int (Int32.ofNat len), .null] 6)) (T8.setTop (mkF m 45 #[.val (.ref a), .val (.ref b), .val (.int (Int32.ofNat o)), .val (.int (Int32.ofNat len)), .val .null, .val (.ref s.heap.size)] [.int (Int32.ofNat len), .ref s.heap.size, .ref a])) := c9.trans (by
      refine XS.astore X8.here hexec rfl (hb hbytes d39) rfl rfl rfl ?_
      refine XS.aloadN X8.here hexec rfl (hb hbytes d41) rfl rfl ?_
      refine XS.aload X8.here hexec rfl (hb hbytes d42) rfl rfl ?_
      refine XS.iloadN X8.here hexec rfl (hb hbytes d44) rfl ?_
      exact Steps.refl _)
    rw [n4]; exact hc
  obtain ⟨v11, T11, X11, E11, g11⟩ := X8.callS hexec (CodL.law l s.heap.size N) hown (wks W (staticW "java/lang/String" 47 CodL.yN)) (wk W CodL.tab) (W := 1) (Nat.le_of_ble_eq_true rfl) (Nat.le_of_ble_eq_true rfl) (Nat.le_refl _) (by show 0 + len + 0 ≤ len; omega) (g := (mkF m 45 #[.val (.ref a), .val (.ref b), .val (.int (Int32.ofNat o)), .val (.int (Int32.ofNat len)), .val .null, .val (.ref s.heap.size)] [.int (Int32.ofNat N.slots.size), .ref s.heap.size, .ref a])) rfl (by rw [hml]; rfl) c10 (argsL := [.ref s.heap.size, .int (Int32.ofNat N.slots.size)]) (rest := [.ref a]) rfl rfl (by show 2 * 0 + (1 + 0) ≤ _; decide) (hb hbytes d45) (⟨rfl, n1⟩)
  obtain ⟨rfl, q11⟩ := E11
  have hB11 := hB1.mv (X8.warmed.alike.symm.trans X11.warmed.alike) q11
  have c12 : Steps p.tables e below (s₁.setTop (entryFrame m #[.ref a, .ref b, .int (Int32.ofNat o), .int (Int32.ofNat len), .null] 6)) (T11.setTop (mkF m 48 #[.val (.ref a), .val (.ref b), .val (.int (Int32.ofNat o)), .val (.int (Int32.ofNat len)), .val .null, .val (.ref s.heap.size)] [.int 0, .ref a])) := g11
  obtain ⟨T13, X13, p13, bl13, sl13, st13⟩ := X11.finit hexec hown (wk W (.fieldLink "java/lang/String" 15 "java/lang/String" "coder" "B")) (Or.inr ⟨_, (wk W (.laysFinal "java/lang/String" "java/lang/String" "coder" "B"))⟩) (Or.inl ⟨rfl, hnm⟩) f2 (Or.inl rfl) hB11 (t := .byte) (by decide +kernel) rfl (g := (mkF m 48 #[.val (.ref a), .val (.ref b), .val (.int (Int32.ofNat o)), .val (.int (Int32.ofNat len)), .val .null, .val (.ref s.heap.size)] [.int 0, .ref a])) rfl (rest := []) rfl (hb hbytes d48)
  have c14 : Steps p.tables e below (s₁.setTop (entryFrame m #[.ref a, .ref b, .int (Int32.ofNat o), .int (Int32.ofNat len), .null] 6)) (T13.setTop (mkF m 54 #[.val (.ref a), .val (.ref b), .val (.int (Int32.ofNat o)), .val (.int (Int32.ofNat len)), .val .null, .val (.ref s.heap.size)] [.ref s.heap.size, .ref a])) := (c12.trans (st13 _ (Steps.refl _))).trans (by
    refine XS.aloadN X13.here hexec rfl (hb hbytes d51) rfl rfl ?_
    refine XS.aload X13.here hexec rfl (hb hbytes d52) rfl rfl ?_
    exact Steps.refl _)
  obtain ⟨T15, X15, p15, bl15, sl15, st15⟩ := X13.finit hexec hown (wk W (.fieldLink "java/lang/String" 9 "java/lang/String" "value" "[B")) (Or.inr ⟨_, (wk W (.laysFinal "java/lang/String" "java/lang/String" "value" "[B"))⟩) (Or.inl ⟨rfl, hnm⟩) f1 (Or.inl rfl) bl13 (t := (.array .byte)) (by decide +kernel) rfl (g := (mkF m 54 #[.val (.ref a), .val (.ref b), .val (.int (Int32.ofNat o)), .val (.int (Int32.ofNat len)), .val .null, .val (.ref s.heap.size)] [.ref s.heap.size, .ref a])) rfl (rest := []) rfl (hb hbytes d54)
  have c16 : Steps p.tables e below (s₁.setTop (entryFrame m #[.ref a, .ref b, .int (Int32.ofNat o), .int (Int32.ofNat len), .null] 6)) (T15.setTop (mkF m 57 #[.val (.ref a), .val (.ref b), .val (.int (Int32.ofNat o)), .val (.int (Int32.ofNat len)), .val .null, .val (.ref s.heap.size)] [])) := c14.trans (st15 _ (Steps.refl _))
  have ap := apart (Or.inr ⟨_, (wk W (.laysFinal "java/lang/String" "java/lang/String" "value" "[B"))⟩) (Or.inr ⟨_, (wk W (.laysFinal "java/lang/String" "java/lang/String" "coder" "B"))⟩) f1 f2 (t₁ := .array .byte) (t₂ := .byte) (by decide +kernel) (by decide +kernel) (by decide)
  have al := X8.warmed.alike.symm.trans X15.warmed.alike
  have n7 : T11.heap[s.heap.size]? = some N := by rw [q11]; exact n1.1
  exact ⟨T15, none, _, _, _, X15, by simp, rfl, by omega, (fun _ => rfl), ⟨rfl, _, N, bl15, ((Same.refl D _).set _ (by simp)).set _ (by simp), sl15, (Cell.slots_setSlot_ne _ ap).trans sl13, n1.keep al (p15.other hne (p13.other hne n7)), n2, by rw [al.findClass]; exact n3, n4, n5, fun y c h1 h2 => p15.other h1 (p13.other h1 (by rw [q11]; exact n6 y c h2)), by rw [p15.2.2, p13.2.2, q11]; exact z8⟩, fun fs hl => c16.trans (X15.returnOut hexec hret (hb hbytes d57) hl)⟩
end New4
namespace New1
def yN : MethodName := ⟨"java/lang/String", "<init>", "([C)V"⟩
abbrev yB : ByteArray := jdk_42_method_3_code
theorem d0 : decode yB 0 = .ok (.aload_n 0, 1) := by decide +kernel
theorem d1 : decode yB 1 = .ok (.aload_n 1, 1) := by decide +kernel
theorem d2 : decode yB 2 = .ok (.iconst 0, 1) := by decide +kernel
theorem d3 : decode yB 3 = .ok (.aload_n 1, 1) := by decide +kernel
theorem d4 : decode yB 4 = .ok (.arraylength, 1) := by decide +kernel
theorem d5 : decode yB 5 = .ok (.aconst_null, 1) := by decide +kernel
theorem d6 : decode yB 6 = .ok (.invokespecial 27, 3) := by decide +kernel
theorem d9 : decode yB 9 = .ok (.return_, 1) := by decide +kernel
def site : List Cond := [New4.tab] ++ initW "java/lang/String" 27 New4.yN
def tab : Cond := tabOf yN yB 2 none site
def P (a : Addr) (D : Cell) (fV fC : Field) (b : Addr) (A : Cell) (z : Int32) (args : Array Value) (s : State) : Prop := args = #[.ref a, .ref b] ∧ Blank "java/lang/String" a D s ∧ Found "java/lang/String" "value" "[B" fV s ∧ Found "java/lang/String" "coder" "B" fC s ∧ Ch b A s ∧ StaticIs s "java/lang/String" "COMPACT_STRINGS" "Z" (.int z) ∧ ¬ z = 0 ∧ 0 < A.slots.size ∧ A.slots.size ≤ 536870912 ∧ ∀ i, i < A.slots.size → ¬ 255 < cv A i
def E (a : Addr) (D : Cell) (fV fC : Field) (A : Cell) (r : Option Value) (s u : State) : Prop := Got a D fV fC A 0 A.slots.size r s u
/-- new String(chars), not empty, no char above 255: a Latin-1 String of their low bytes -/
theorem law (l : Launch) (a : Addr) (D : Cell) (fV fC : Field) (b : Addr) (A : Cell) (z : Int32) : Law l yN 2 1 3 52 yB 2 none site (P a D fV fC b A z) (E a D fV fC A) [⟨a, fC.slot⟩, ⟨a, fV.slot⟩] 1 A.slots.size := by
  refine Law.of_walk (plainFor_of_name (by decide +kernel)) (by decide +kernel) (by decide +kernel) (by decide) (fun _ _ h => by rw [h.1]; rfl) (fun _ U U' hal hh h => ⟨h.1, h.2.1.mv hal hh, h.2.2.1.al hal, h.2.2.2.1.al hal, h.2.2.2.2.1.mv hal hh, h.2.2.2.2.2.1.there hal hh, h.2.2.2.2.2.2⟩) (fun r U U' V V' h1 hal h2 h => Got.mv r U U' V V' h1 hal h2 h) ?_
  intro p e s m args below meth c s₁ X0 hexec hbytes hml hret hlk hnm hown hh0 W hP
  obtain ⟨rfl, hB, f1, f2, hA, s1, hz, l0, l2, hp⟩ := hP
  have c1 : Steps p.tables e below (s₁.setTop (entryFrame m #[.ref a, .ref b] 2)) (s₁.setTop (mkF m 0 #[.val (.ref a), .val (.ref b)] [])) := entry rfl
  have c2 : Steps p.tables e below (s₁.setTop (entryFrame m #[.ref a, .ref b] 2)) (s₁.setTop (mkF m 6 #[.val (.ref a), .val (.ref b)] [.null, .int (Int32.ofNat A.slots.size), .int 0, .ref b, .ref a])) := c1.trans (by
    refine XS.aloadN X0.here hexec rfl (hb hbytes d0) rfl rfl ?_
    refine XS.aloadN X0.here hexec rfl (hb hbytes d1) rfl rfl ?_
    refine iconstV X0.here hexec rfl 0 (hb hbytes d2) (by decide) ?_
    refine XS.aloadN X0.here hexec rfl (hb hbytes d3) rfl rfl ?_
    refine X0.alen hexec (hA.1.mv X0.warmed.alike hh0) rfl rfl (hb hbytes d4) ?_
    refine XS.aconstNull X0.here hexec rfl (hb hbytes d5) ?_
    exact Steps.refl _)
  obtain ⟨v3, T3, X3, E3, g3⟩ := X0.callN hexec (New4.law l a D fV fC b A z 0 A.slots.size) rfl hown (wks W (initW "java/lang/String" 27 New4.yN)) (W New4.tab (by simp only [site, List.mem_cons, List.mem_append, true_or, or_true])) (W := 0) (Nat.le_of_ble_eq_true rfl) (Nat.le_of_ble_eq_true rfl) (Nat.le_refl _) (by show 0 + A.slots.size ≤ A.slots.size; omega) (g := (mkF m 6 #[.val (.ref a), .val (.ref b)] [.null, .int (Int32.ofNat A.slots.size), .int (Int32.ofNat 0), .ref b, .ref a])) rfl (by rw [hml]; rfl) c2 (argsL := [.ref b, .int (Int32.ofNat 0), .int (Int32.ofNat A.slots.size), .null]) (rest := []) rfl rfl (by show 2 * 0 + 0 ≤ _; decide) (hb hbytes d6) (⟨rfl, hB.mv X0.warmed.alike hh0, f1.al X0.warmed.alike, f2.al X0.warmed.alike, hA.mv X0.warmed.alike hh0, s1.there X0.warmed.alike hh0, hz, l0, by omega, l2, fun i hi => by rw [Nat.zero_add]; exact hp i hi⟩)
  have e0 := Got.mv _ s₁ s _ _ hh0.symm (Vm.Alike.refl _) rfl E3
  obtain rfl := e0.1
  have c4 : Steps p.tables e below (s₁.setTop (entryFrame m #[.ref a, .ref b] 2)) (T3.setTop (mkF m 9 #[.val (.ref a), .val (.ref b)] [])) := g3
  exact ⟨T3, none, _, _, _, X3, by simp, rfl, by omega, (fun _ => rfl), e0, fun fs hl => c4.trans (X3.returnOut hexec hret (hb hbytes d9) hl)⟩
theorem pays {l : Launch} {R : Room} {p : Program} {e : Env} {below : List Frame} {s : State} {sargs : Array Value} {len W : Nat} (a : Addr) (D : Cell) (fV fC : Field) (b : Addr) (A : Cell) (z : Int32) (htab : tab.before sargs s = true) (hfr : 4 ≤ R.frames) (hlo : W + 65 ≤ R.locals) :
    Back l R p e below s sargs yN len W (fun A₁ a₁ => A₁.cells + 1 ≤ R.cells ∧ A₁.slots + A.slots.size ≤ R.slots ∧ P a D fV fC b A z a₁ A₁.U) (fun A₁ _ v₁ B₁ => E a D fV fC A v₁ A₁.U B₁.U ∧ B₁.locs = A₁.locs ++ [⟨a, fC.slot⟩, ⟨a, fV.slot⟩] ∧ B₁.cells = A₁.cells + 1 ∧ B₁.slots = A₁.slots + A.slots.size) :=
  (law l a D fV fC b A z).pays htab hfr (by omega)
end New1
end StrChars
namespace StrChars.Road
open Jvm Sem ClassFile Op Lib Jvm.Stand Jvm.Free Jvm.Free.XT
open Jvm.Lib.Cold (StaticIs)
abbrev ST : String := "java/lang/String"
/-- every table word that New1's law asks, flat -/
abbrev words : List Jvm.Cond := [.code New1.yN New1.yB 2 none, .initialized ST, .methodLink ST 27 New4.yN, .instanceMethod New4.yN,
  .code New4.yN New4.yB 6 none, .fieldLink ST 38 ST "COMPACT_STRINGS" "Z", .laysFinal ST ST "value" "[B", .fieldLink ST 9 ST "value" "[B", .laysFinal ST ST "coder" "B", .fieldLink ST 15 ST "coder" "B",
  .methodLink ST 1 Lib.objectInit, .instanceMethod Lib.objectInit, .code Lib.objectInit ⟨#[0xb1]⟩ 1 none, .methodLink ST 177 Cmp3.yN, .static Cmp3.yN, .methodLink ST 47 CodL.yN, .static CodL.yN,
  .code Cmp3.yN Cmp3.yB 6 (some (.array .byte)), .initialized U16, .arrayClass .byte, .methodLink U16 115 Cmp5.yN, .static Cmp5.yN, .code Cmp5.yN Cmp5.yB 7 (some .int), .code CodL.yN CodL.yB 2 (some .byte)]
theorem tab_of {a : Array Value} {s : State} (h : ∀ w ∈ words, w.before a s = true) : New1.tab.before a s = true := by
  have h5 : Cmp5.tab.before a s = true := unparts (wk h (.code Cmp5.yN Cmp5.yB 7 (some .int))) (wks h (.initialized Cmp5.yN.cls :: Cmp5.site))
  have hc : CodL.tab.before a s = true := unparts (wk h (.code CodL.yN CodL.yB 2 (some .byte))) (wks h (.initialized CodL.yN.cls :: CodL.site))
  have q5 : ∀ w ∈ Cmp5.tab :: words, w.before a s = true := fun w hw => (List.mem_cons.mp hw).elim (fun e => e ▸ h5) (h w)
  have h3 : Cmp3.tab.before a s = true := unparts (wk q5 (.code Cmp3.yN Cmp3.yB 6 (some (.array .byte)))) (wks q5 (.initialized Cmp3.yN.cls :: Cmp3.site))
  have q3 : ∀ w ∈ Cmp3.tab :: CodL.tab :: words, w.before a s = true := fun w hw => (List.mem_cons.mp hw).elim (fun e => e ▸ h3) fun hw => (List.mem_cons.mp hw).elim (fun e => e ▸ hc) (h w)
  have h4 : New4.tab.before a s = true := unparts (wk q3 (.code New4.yN New4.yB 6 none)) (wks q3 (.initialized New4.yN.cls :: New4.site))
  have q4 : ∀ w ∈ New4.tab :: words, w.before a s = true := fun w hw => (List.mem_cons.mp hw).elim (fun e => e ▸ h4) (h w)
  exact unparts (wk q4 (.code New1.yN New1.yB 2 none)) (wks q4 (.initialized New1.yN.cls :: New1.site))
/-- the words ride from the start Z to the walk's own state -/
theorem moved {Z s : State} {a0 args : Array Value} (hZ : Z.Warmed39 s.vm) (hw : ∀ d ∈ words, d.before a0 Z = true) : ∀ d ∈ words, d.before args s = true := fun d hd => by
  have q := hw d hd
  have t : ∀ d ∈ words, d = .arrayClass .byte ∨ (d.onTables && d.keepsFace) = true := by decide +kernel
  rcases t d hd with rfl | t
  · exact RoadKit.mvA hZ q
  · exact RoadKit.mv hZ q t
/-- WHAT COMES BACK, over the tables of the start Z: h the heap at the call, h' behind it -/
def Q (Z : State) (x : Addr) (A : Cell) (h : Heap) (v : Option Value) (h' : Heap) (L : List Loc) : Prop := v = none ∧ (∀ y ∈ L, y.base = x) ∧ RoadKit.Keep h h' [x] ∧ h'.size = h.size + 1 ∧ RoadKit.Exa Z h' x ST ∧ RoadKit.Fld Z h' x ST "value" "[B" (.ref h.size) ∧ RoadKit.Fld Z h' x ST "coder" "B" (.int 0) ∧
  (∃ V : Cell, RoadKit.Arr Z h' h.size V .byte ∧ V.vm = .none ∧ Z.vm.findClass "[B" = some V.cls ∧ V.slots.size = A.slots.size ∧ ∀ j, j < A.slots.size → V.slots[j]? = some (.int (lo8 (cv A j)))) ∧
  ∀ (O n d : String) (w : Value), RoadKit.Fld Z h x O n d w → RoadKit.slotOf Z O n d ≠ RoadKit.slotOf Z ST "value" "[B" → RoadKit.slotOf Z O n d ≠ RoadKit.slotOf Z ST "coder" "B" → RoadKit.Fld Z h' x O n d w
/-- **new String(chars) AT A CALL, IN THE ROAD'S FORM**: for specialBack behind newO: x the fresh String, b the char[] with the cell A -/
theorem back {p : Program} {l : Launch} {e : Env} {R : Room} {s : State} {args : Array Value} {below : List Frame} {len W : Nat} {Z : State} {a0 : Array Value} {h : Heap} (hZ : Z.Warmed39 s.vm) (hw : ∀ d ∈ words, d.before a0 Z = true) {kI : Nat} (wi : (Jvm.Cond.instantiable ST kI).before a0 Z = true)
    {x b : Addr} {A : Cell} {z : Int32} {v0 c0 : Value} (E : RoadKit.Exa Z h x ST) (V : RoadKit.Fld Z h x ST "value" "[B" v0) (C : RoadKit.Fld Z h x ST "coder" "B" c0) (K : RoadKit.Arr Z h b A .char) (hty : Typed .char A) (S : RoadKit.Sta Z h ST "COMPACT_STRINGS" "Z" (.int z)) (hz : ¬ z = 0)
    (l0 : 0 < A.slots.size) (l2 : A.slots.size ≤ 536870912) (hp : ∀ i, i < A.slots.size → ¬ 255 < cv A i) (hfr : 4 ≤ R.frames) (hlo : W + 65 ≤ R.locals) :
    Back l R p e below s args New1.yN len W (fun P a => a = #[.ref x, .ref b] ∧ P.U.heap = h ∧ P.cells + 1 ≤ R.cells ∧ P.slots + A.slots.size ≤ R.slots)
      (fun P _ v B => ∃ L, Q Z x A h v B.U.heap L ∧ B.locs = P.locs ++ L ∧ B.cells = P.cells + 1 ∧ B.slots = P.slots + A.slots.size) := by
  intro m meth c P g ig mk a X hg hsize hdg hW hn hp'
  obtain ⟨rfl, rfl, r1, r2⟩ := hp'
  have al : Z.vm.Alike P.U.vm := hZ.alike.trans X.warmed.alike
  obtain ⟨D, cfV, kV, iV, fV, hD, gV, stV, knV, obV, asV, slV⟩ := id V
  obtain ⟨D', cfC, kC, iC, fC, hD', gC, stC, -, -, asC, slC⟩ := id C
  cases hD.symm.trans hD'
  obtain ⟨D2, kD, e1, e2, e3, e4, e5⟩ := id E
  cases hD.symm.trans e1
  obtain ⟨c2, k2, i1, i2, i3, -⟩ := Cond.instantiable_spec wi
  cases e2.symm.trans i1
  cases e3.symm.trans i2
  obtain ⟨kU, u1, u2⟩ := al.2.2 _ _ e3
  have hB : Blank ST x D P.U := ⟨hD, ⟨knV, fun q hq => by rw [hq] at obV; cases obV⟩, by rw [al.findClass]; exact e2, kU, u1, by rw [u2]; exact i3, by rw [u2]; exact e5 i3⟩
  have F1 : Found ST "value" "[B" fV P.U := ⟨SBG.found_only al ⟨cfV, kV, iV, gV⟩, stV⟩
  have F2 : Found ST "coder" "B" fC P.U := ⟨SBG.found_only al ⟨cfC, kC, iC, gC⟩, stC⟩
  have hA : Ch b A P.U := ⟨⟨K.1, State.isArrayOf_alike al K.2.1, K.2.2, by omega⟩, hty⟩
  have hS : StaticIs P.U ST "COMPACT_STRINGS" "Z" (.int z) := by
    obtain ⟨cfS, iS, kS, fS, st, cS, t1, t2, t3, t4, t5, t6, t7⟩ := S
    exact StaticIs.there (s := { Z with heap := P.U.heap }) ⟨cfS, iS, kS, fS, st, cS, t1, t2, t3, t4, t5, (fun q => by rw [q] at t6; cases t6), t7⟩ al rfl
  obtain ⟨v, B, X', ⟨⟨hv, E', V', q1, q2, q3, q4, q5, q6, q7, q8, q9, q10, q11⟩, hl, hc, hs⟩, st⟩ := New1.pays x D fV fC b A z (tab_of (moved hZ hw)) hfr hlo m meth c P g ig mk _ X hg hsize hdg hW hn ⟨r1, r2, rfl, hB, F1, F2, hA, hS, hz, l0, l2, hp⟩
  have al' : Z.vm.Alike B.U.vm := hZ.alike.trans X'.warmed.alike
  have hsz : E'.slots.size = D.slots.size := by
    obtain ⟨-, -, -, kB, w1, w2, w3⟩ := q1
    obtain ⟨kB', y1, y2⟩ := al'.2.2 _ _ e3
    rw [q2.2.1] at w1
    cases w1.symm.trans y1
    rw [w3, e5 i3, y2]
  refine ⟨v, B, X', ⟨_, ⟨hv, ?_, ⟨by omega, fun y cy hy hn' => q10 y cy (by simpa using hn') hy, fun y cy hy => ?_⟩, q11, ⟨E', _, q1.1, by rw [q2.2.1]; exact e2, by rw [q2.2.1]; exact e3, by rw [q2.1]; exact obV, fun _ => by rw [hsz]; exact e5 i3⟩,
    ⟨E', cfV, kV, iV, fV, q1.1, gV, stV, by rw [q2.1]; exact knV, by rw [q2.1]; exact obV, by rw [q2.2.1]; exact asV, q3⟩, ⟨E', cfC, kC, iC, fC, q1.1, gC, stC, by rw [q2.1]; exact knV, by rw [q2.1]; exact obV, by rw [q2.2.1]; exact asC, q4⟩,
    ⟨V', ⟨q5.1, State.isArrayOf_alike al'.symm q5.2.1, q5.2.2.1⟩, q6, by rw [← al'.findClass]; exact q7, q8, fun j hj => by have := q9 j hj; rwa [Nat.zero_add] at this⟩, fun O n d w F n1 n2 => ?_⟩, hl, hc, hs⟩, st⟩
  · intro y hy
    simp only [List.mem_cons, List.not_mem_nil, or_false] at hy
    rcases hy with rfl | rfl <;> rfl
  · by_cases q : y = x
    · subst q
      cases hD.symm.trans hy
      exact ⟨E', q1.1, q2.2.1, q2.1, hsz⟩
    · exact ⟨cy, q10 y cy q hy, rfl, rfl, rfl⟩
  · obtain ⟨D3, cf, k, i, f, g1, g2, g3, g4, g5, g6, g7⟩ := F
    cases hD.symm.trans g1
    simp only [RoadKit.slotOf, g2, gV, gC, Option.map_some, Option.getD_some] at n1 n2
    exact ⟨E', cf, k, i, f, q1.1, g2, g3, by rw [q2.1]; exact g4, by rw [q2.1]; exact g5, by rw [q2.2.1]; exact g6, by rw [q2.2.2 f.slot (by simp [n1, n2])]; exact g7⟩
end StrChars.Road
namespace StrChars.Road
open Jvm Sem ClassFile Op Lib Jvm.Stand Jvm.Free Jvm.Free.XT
/-- WHAT COMES BACK, the byte[] as a list of values -/
def QA (Z : State) (x : Addr) (zn : Int32) (cs : List Int32) (h : Heap) (v : Option Value) (h' : Heap) (L : List Loc) : Prop := v = none ∧ (∀ y ∈ L, y.base = x) ∧ RoadKit.Keep h h' [x] ∧ h'.size = h.size + 1 ∧ RoadKit.Exa Z h' x ST ∧ RoadKit.Fld Z h' x ST "value" "[B" (.ref h.size) ∧ RoadKit.Fld Z h' x ST "coder" "B" (.int 0) ∧
  (∃ kb, Z.vm.findClass "[B" = some kb ∧ RoadKit.Arv Z h' h.size kb .byte zn (cs.map fun c => .int (lo8 c)) (.int 0)) ∧
  ∀ (O n d : String) (w : Value), RoadKit.Fld Z h x O n d w → RoadKit.slotOf Z O n d ≠ RoadKit.slotOf Z ST "value" "[B" → RoadKit.slotOf Z O n d ≠ RoadKit.slotOf Z ST "coder" "B" → RoadKit.Fld Z h' x O n d w
/-- **new String(chars) AT A CALL, THE ARRAYS AS LISTS**: the char[] at b holds cs, not empty, no char above 255 -/
theorem backArv {p : Program} {l : Launch} {e : Env} {R : Room} {s : State} {args : Array Value} {below : List Frame} {len W : Nat} {Z : State} {a0 : Array Value} {h : Heap} (hZ : Z.Warmed39 s.vm) (hw : ∀ d ∈ words, d.before a0 Z = true) {kI : Nat} (wi : (Jvm.Cond.instantiable ST kI).before a0 Z = true)
    {x b : Addr} {k : ClassId} {zn z : Int32} {cs : List Int32} {dv v0 c0 : Value} (E : RoadKit.Exa Z h x ST) (V : RoadKit.Fld Z h x ST "value" "[B" v0) (C : RoadKit.Fld Z h x ST "coder" "B" c0) (K : RoadKit.Arv Z h b k .char zn (cs.map Value.int) dv) (S : RoadKit.Sta Z h ST "COMPACT_STRINGS" "Z" (.int z)) (hz : ¬ z = 0)
    (hlen : zn.toNatClampNeg = cs.length) (h0 : 0 < cs.length) (hbig : cs.length ≤ 536870912) (hall : ∀ c ∈ cs, ¬ 255 < c) (hfr : 4 ≤ R.frames) (hlo : W + 65 ≤ R.locals) :
    Back l R p e below s args New1.yN len W (fun P a => a = #[.ref x, .ref b] ∧ P.U.heap = h ∧ P.cells + 1 ≤ R.cells ∧ P.slots + cs.length ≤ R.slots)
      (fun P _ v B => ∃ L, QA Z x zn cs h v B.U.heap L ∧ B.locs = P.locs ++ L ∧ B.cells = P.cells + 1 ∧ B.slots = P.slots + cs.length) := by
  obtain ⟨A, K1, K2, K3, K4, K5, K6⟩ := K
  have e : A.slots.size = cs.length := K3.trans hlen
  have hat : ∀ (i : Nat) (hi : i < cs.length), A.slots[i]? = some (.int cs[i]) := fun i hi => by rw [K5 i (by omega)]; simp [List.getD_eq_getElem?_getD, hi]
  have hcv : ∀ (i : Nat) (hi : i < cs.length), cv A i = cs[i] := fun i hi => by unfold cv; rw [hat i hi]
  have hty : Typed .char A := fun i v hv => by
    have hi : i < A.slots.size := (Array.getElem?_eq_some_iff.mp hv).1
    have q := K5 i hi
    rw [hv] at q
    rw [Option.some.inj q]
    exact K6 i hi
  refine Back.mono (back hZ hw wi E V C K1 hty S hz (by omega) (by omega) (fun i hi => by rw [hcv i (by omega)]; exact hall _ (List.getElem_mem _)) hfr hlo) (fun P a hp => ⟨hp.1, hp.2.1, hp.2.2.1, by rw [e]; exact hp.2.2.2⟩) (fun P a v B hp hq => ?_)
  obtain ⟨L, ⟨q1, q2, q3, q4, q5, q6, q7, ⟨V', v1, v2, v3, v4, v5⟩, q9⟩, hl, hc, hs⟩ := hq
  refine ⟨L, ⟨q1, q2, q3, q4, q5, q6, q7, ⟨V'.cls, v3, V', v1, rfl, by rw [v4, e, hlen], K4, fun i hi => ?_, fun i hi => ?_⟩, q9⟩, hl, hc, by rw [hs, e]⟩
  · have hi' : i < cs.length := by omega
    rw [v5 i (by omega), hcv i hi']; simp [List.getD_eq_getElem?_getD, hi']
  · have hi' : i < cs.length := by omega
    simp only [List.getD_eq_getElem?_getD, List.getElem?_map, List.getElem?_eq_getElem hi', Option.map_some, Option.getD_some]
    exact fits_lo8 _
end StrChars.Road
namespace StrChars.Road
open Jvm Sem ClassFile Op Lib Jvm.Stand Jvm.Free Jvm.Free.XT
/-- WHAT COMES BACK, in the writer's own shape -/
def QV (Z : State) (x : Addr) (N : Int32) (bs : List Int32) (h : Heap) (n0 : Nat) (v : Option Value) (h' : Heap) (L : List Loc) : Prop := v = none ∧ RoadKit.Fr n0 L ∧ RoadKit.Keep h h' [x] ∧ RoadKit.Exa Z h' x ST ∧ RoadKit.Fld Z h' x ST "coder" "B" (.int 0) ∧
  ∃ (t : Addr) (kb : ClassId), n0 ≤ t ∧ h.size ≤ t ∧ ¬ t = x ∧ RoadKit.Fld Z h' x ST "value" "[B" (.ref t) ∧ RoadKit.Arv Z h' t kb .byte N (bs.map Value.int) (.int 0)
/-- **new String(chars) AT A CALL, FOR THE WRITER**: a char[] of n known ints, each 0 to 255 -/
theorem backV {p : Program} {l : Launch} {e : Env} {R : Room} {s : State} {args : Array Value} {below : List Frame} {len W : Nat} {Z : State} {a0 : Array Value} {h : Heap} (hZ : Z.Warmed39 s.vm) (hw : ∀ d ∈ words, d.before a0 Z = true) {kI : Nat} (wi : (Jvm.Cond.instantiable ST kI).before a0 Z = true)
    {x b : Addr} {kC : ClassId} {cs bs : List Int32} {d v0 c0 : Value} {z N : Int32} {n n0 : Nat} (hx0 : n0 ≤ x) (hh0 : n0 ≤ h.size) (E : RoadKit.Exa Z h x ST) (V : RoadKit.Fld Z h x ST "value" "[B" v0) (C : RoadKit.Fld Z h x ST "coder" "B" c0) (K : RoadKit.Arv Z h b kC .char N (cs.map Value.int) d) (S : RoadKit.Sta Z h ST "COMPACT_STRINGS" "Z" (.int z)) (hz : ¬ z = 0)
    (hn : cs.length = n) (hN : N = Int32.ofNat n) (l0 : 0 < n) (l2 : n ≤ 4000) (hp : ∀ c ∈ cs, ¬ c < 0 ∧ ¬ (255 : Int32) < c) (hb : bs = cs.map (fun c => c.toInt8.toInt32)) (hfr : 4 ≤ R.frames) (hlo : W + 65 ≤ R.locals) :
    Back l R p e below s args (⟨"java/lang/String", "<init>", "([C)V"⟩ : MethodName) len W (fun P a => a = #[.ref x, .ref b] ∧ P.U.heap = h ∧ P.cells + 1 ≤ R.cells ∧ P.slots + n ≤ R.slots)
      (fun P _ v B => ∃ L, QV Z x N bs h n0 v B.U.heap L ∧ B.locs = P.locs ++ L ∧ B.cells = P.cells + 1 ∧ B.slots = P.slots + n) := by
  subst hn hN hb
  refine Back.mono (backArv hZ hw wi E V C K S hz (n32 (by omega)) l0 (by omega) (fun c hc => (hp c hc).2) hfr hlo) (fun P a hp => hp) (fun P a v B hp hq => ?_)
  obtain ⟨L, ⟨q1, q2, q3, q4, q5, q6, q7, ⟨kb, v1, v2⟩, q9⟩, hl, hc, hs⟩ := hq
  exact ⟨L, ⟨q1, fun y hy => by rw [q2 y hy]; exact hx0, q3, q5, q7, h.size, kb, hh0, Nat.le_refl _, Nat.ne_of_gt E.lt, q6, by rw [List.map_map]; exact v2⟩, hl, hc, hs⟩
end StrChars.Road
end Jvm.Pilot.@@N@@

namespace Jvm.Pilot.@@N@@
open Jvm Jvm.ClassFile Sem Op Lib Jvm.Free Jvm.Stand Jvm.LawKit Jvm.RoadKit Bundle Jvm.Pilot.@@N@@.Jvm.D Jvm.OwnKit

theorem hws_new {a0 : Array Value} {Z : State} (hw : ∀ d ∈ tables_1, d.before a0 Z = true) : ∀ d ∈ StrChars.Road.words, d.before a0 Z = true := fun d hd => hw d ((by decide +kernel : ∀ d ∈ StrChars.Road.words, d ∈ tables_1) d hd)
theorem w_0 {a0 : Array Value} {Z : State} (hw : ∀ d ∈ tables_1, d.before a0 Z = true) : (Jvm.Cond.arrayClass Jvm.ClassFile.FieldType.byte).before a0 Z = true := hw _ (List.mem_of_getElem? (i := 0) rfl)
theorem w_1 {a0 : Array Value} {Z : State} (hw : ∀ d ∈ tables_1, d.before a0 Z = true) : (Jvm.Cond.arrayClass Jvm.ClassFile.FieldType.char).before a0 Z = true := hw _ (List.mem_of_getElem? (i := 1) rfl)
theorem w_2 {a0 : Array Value} {Z : State} (hw : ∀ d ∈ tables_1, d.before a0 Z = true) : (Jvm.Cond.classLink "com/example/plain_mapper/plainmapper/BinaryKeyValuePinLaw" (7 : Nat) "java/lang/String").before a0 Z = true := hw _ (List.mem_of_getElem? (i := 2) rfl)
theorem w_3 {a0 : Array Value} {Z : State} (hw : ∀ d ∈ tables_1, d.before a0 Z = true) : (Jvm.Cond.instantiable "java/lang/String" (4 : Nat)).before a0 Z = true := hw _ (List.mem_of_getElem? (i := 3) rfl)
theorem w_4 {a0 : Array Value} {Z : State} (hw : ∀ d ∈ tables_1, d.before a0 Z = true) : (Jvm.Cond.initialized "java/lang/String").before a0 Z = true := hw _ (List.mem_of_getElem? (i := 4) rfl)
theorem w_5 {a0 : Array Value} {Z : State} (hw : ∀ d ∈ tables_1, d.before a0 Z = true) : (Jvm.Cond.methodLink "com/example/plain_mapper/plainmapper/BinaryKeyValuePinLaw" (9 : Nat) ({ cls := "java/lang/String", name := "<init>", desc := "([C)V" } : Jvm.MethodName)).before a0 Z = true := hw _ (List.mem_of_getElem? (i := 5) rfl)
theorem w_6 {a0 : Array Value} {Z : State} (hw : ∀ d ∈ tables_1, d.before a0 Z = true) : (Jvm.Cond.instanceMethod ({ cls := "java/lang/String", name := "<init>", desc := "([C)V" } : Jvm.MethodName)).before a0 Z = true := hw _ (List.mem_of_getElem? (i := 6) rfl)
theorem w_7 {a0 : Array Value} {Z : State} (hw : ∀ d ∈ tables_1, d.before a0 Z = true) : (Jvm.Cond.code ({ cls := "java/lang/String", name := "<init>", desc := "([C)V" } : Jvm.MethodName) jdk_42_method_3_code (2 : Nat) (Option.none : Option Jvm.ClassFile.FieldType)).before a0 Z = true := hw _ (List.mem_of_getElem? (i := 7) rfl)
theorem w_13 {a0 : Array Value} {Z : State} (hw : ∀ d ∈ tables_1, d.before a0 Z = true) : (Jvm.Cond.instanceMethod ({ cls := "java/lang/Object", name := "<init>", desc := "()V" } : Jvm.MethodName)).before a0 Z = true := hw _ (List.mem_of_getElem? (i := 13) rfl)
theorem w_14 {a0 : Array Value} {Z : State} (hw : ∀ d ∈ tables_1, d.before a0 Z = true) : (Jvm.Cond.code ({ cls := "java/lang/Object", name := "<init>", desc := "()V" } : Jvm.MethodName) object_method_1_code (1 : Nat) (Option.none : Option Jvm.ClassFile.FieldType)).before a0 Z = true := hw _ (List.mem_of_getElem? (i := 14) rfl)
theorem w_27 {a0 : Array Value} {Z : State} (hw : ∀ d ∈ tables_1, d.before a0 Z = true) : (Jvm.Cond.laysFinal "java/lang/String" "java/lang/String" "coder" "B").before a0 Z = true := hw _ (List.mem_of_getElem? (i := 27) rfl)
theorem w_29 {a0 : Array Value} {Z : State} (hw : ∀ d ∈ tables_1, d.before a0 Z = true) : (Jvm.Cond.laysFinal "java/lang/String" "java/lang/String" "value" "[B").before a0 Z = true := hw _ (List.mem_of_getElem? (i := 29) rfl)
theorem w_30 {a0 : Array Value} {Z : State} (hw : ∀ d ∈ tables_1, d.before a0 Z = true) : (Jvm.Cond.methodLink "com/example/plain_mapper/plainmapper/BinaryKeyValuePinLaw" (18 : Nat) ({ cls := "com/example/plain_mapper/plainmapper/BinaryKey", name := "of", desc := "(Ljava/lang/Object;)Ljava/lang/Object;" } : Jvm.MethodName)).before a0 Z = true := hw _ (List.mem_of_getElem? (i := 30) rfl)
theorem w_31 {a0 : Array Value} {Z : State} (hw : ∀ d ∈ tables_1, d.before a0 Z = true) : (Jvm.Cond.static ({ cls := "com/example/plain_mapper/plainmapper/BinaryKey", name := "of", desc := "(Ljava/lang/Object;)Ljava/lang/Object;" } : Jvm.MethodName)).before a0 Z = true := hw _ (List.mem_of_getElem? (i := 31) rfl)
theorem w_32 {a0 : Array Value} {Z : State} (hw : ∀ d ∈ tables_1, d.before a0 Z = true) : (Jvm.Cond.initialized "com/example/plain_mapper/plainmapper/BinaryKey").before a0 Z = true := hw _ (List.mem_of_getElem? (i := 32) rfl)
theorem w_33 {a0 : Array Value} {Z : State} (hw : ∀ d ∈ tables_1, d.before a0 Z = true) : (Jvm.Cond.code ({ cls := "com/example/plain_mapper/plainmapper/BinaryKey", name := "of", desc := "(Ljava/lang/Object;)Ljava/lang/Object;" } : Jvm.MethodName) prog_7_method_2_code (1 : Nat) (Option.some (Jvm.ClassFile.FieldType.object "java/lang/Object"))).before a0 Z = true := hw _ (List.mem_of_getElem? (i := 33) rfl)
theorem w_34 {a0 : Array Value} {Z : State} (hw : ∀ d ∈ tables_1, d.before a0 Z = true) : (Jvm.Cond.classLink "com/example/plain_mapper/plainmapper/BinaryKey" (13 : Nat) "[B").before a0 Z = true := hw _ (List.mem_of_getElem? (i := 34) rfl)
theorem w_36 {a0 : Array Value} {Z : State} (hw : ∀ d ∈ tables_1, d.before a0 Z = true) : (Jvm.Cond.classLink "com/example/plain_mapper/plainmapper/BinaryKey" (8 : Nat) "com/example/plain_mapper/plainmapper/BinaryKey").before a0 Z = true := hw _ (List.mem_of_getElem? (i := 36) rfl)
theorem w_37 {a0 : Array Value} {Z : State} (hw : ∀ d ∈ tables_1, d.before a0 Z = true) : (Jvm.Cond.instantiable "com/example/plain_mapper/plainmapper/BinaryKey" (1 : Nat)).before a0 Z = true := hw _ (List.mem_of_getElem? (i := 37) rfl)
theorem w_38 {a0 : Array Value} {Z : State} (hw : ∀ d ∈ tables_1, d.before a0 Z = true) : (Jvm.Cond.methodLink "com/example/plain_mapper/plainmapper/BinaryKey" (14 : Nat) ({ cls := "com/example/plain_mapper/plainmapper/BinaryKey", name := "<init>", desc := "([B)V" } : Jvm.MethodName)).before a0 Z = true := hw _ (List.mem_of_getElem? (i := 38) rfl)
theorem w_39 {a0 : Array Value} {Z : State} (hw : ∀ d ∈ tables_1, d.before a0 Z = true) : (Jvm.Cond.instanceMethod ({ cls := "com/example/plain_mapper/plainmapper/BinaryKey", name := "<init>", desc := "([B)V" } : Jvm.MethodName)).before a0 Z = true := hw _ (List.mem_of_getElem? (i := 39) rfl)
theorem w_40 {a0 : Array Value} {Z : State} (hw : ∀ d ∈ tables_1, d.before a0 Z = true) : (Jvm.Cond.code ({ cls := "com/example/plain_mapper/plainmapper/BinaryKey", name := "<init>", desc := "([B)V" } : Jvm.MethodName) prog_7_method_1_code (2 : Nat) (Option.none : Option Jvm.ClassFile.FieldType)).before a0 Z = true := hw _ (List.mem_of_getElem? (i := 40) rfl)
theorem w_41 {a0 : Array Value} {Z : State} (hw : ∀ d ∈ tables_1, d.before a0 Z = true) : (Jvm.Cond.methodLink "com/example/plain_mapper/plainmapper/BinaryKey" (1 : Nat) ({ cls := "java/lang/Object", name := "<init>", desc := "()V" } : Jvm.MethodName)).before a0 Z = true := hw _ (List.mem_of_getElem? (i := 41) rfl)
theorem w_42 {a0 : Array Value} {Z : State} (hw : ∀ d ∈ tables_1, d.before a0 Z = true) : (Jvm.Cond.fieldLink "com/example/plain_mapper/plainmapper/BinaryKey" (7 : Nat) "com/example/plain_mapper/plainmapper/BinaryKey" "bytes" "[B").before a0 Z = true := hw _ (List.mem_of_getElem? (i := 42) rfl)
theorem w_43 {a0 : Array Value} {Z : State} (hw : ∀ d ∈ tables_1, d.before a0 Z = true) : (Jvm.Cond.laysFinal "com/example/plain_mapper/plainmapper/BinaryKey" "com/example/plain_mapper/plainmapper/BinaryKey" "bytes" "[B").before a0 Z = true := hw _ (List.mem_of_getElem? (i := 43) rfl)
theorem w_44 {a0 : Array Value} {Z : State} (hw : ∀ d ∈ tables_1, d.before a0 Z = true) : (Jvm.Cond.methodLink "com/example/plain_mapper/plainmapper/BinaryKeyValuePinLaw" (24 : Nat) ({ cls := "com/example/plain_mapper/plainmapper/BinaryKey", name := "value", desc := "(Ljava/lang/Object;)Ljava/lang/Object;" } : Jvm.MethodName)).before a0 Z = true := hw _ (List.mem_of_getElem? (i := 44) rfl)
theorem w_45 {a0 : Array Value} {Z : State} (hw : ∀ d ∈ tables_1, d.before a0 Z = true) : (Jvm.Cond.static ({ cls := "com/example/plain_mapper/plainmapper/BinaryKey", name := "value", desc := "(Ljava/lang/Object;)Ljava/lang/Object;" } : Jvm.MethodName)).before a0 Z = true := hw _ (List.mem_of_getElem? (i := 45) rfl)
theorem w_46 {a0 : Array Value} {Z : State} (hw : ∀ d ∈ tables_1, d.before a0 Z = true) : (Jvm.Cond.code ({ cls := "com/example/plain_mapper/plainmapper/BinaryKey", name := "value", desc := "(Ljava/lang/Object;)Ljava/lang/Object;" } : Jvm.MethodName) prog_7_method_3_code (1 : Nat) (Option.some (Jvm.ClassFile.FieldType.object "java/lang/Object"))).before a0 Z = true := hw _ (List.mem_of_getElem? (i := 46) rfl)
theorem w_48 {a0 : Array Value} {Z : State} (hw : ∀ d ∈ tables_1, d.before a0 Z = true) : (Jvm.Cond.methodLink "com/example/plain_mapper/plainmapper/BinaryKeyValuePinLaw" (12 : Nat) ({ cls := "java/lang/Integer", name := "valueOf", desc := "(I)Ljava/lang/Integer;" } : Jvm.MethodName)).before a0 Z = true := hw _ (List.mem_of_getElem? (i := 48) rfl)
theorem w_49 {a0 : Array Value} {Z : State} (hw : ∀ d ∈ tables_1, d.before a0 Z = true) : (Jvm.Cond.static ({ cls := "java/lang/Integer", name := "valueOf", desc := "(I)Ljava/lang/Integer;" } : Jvm.MethodName)).before a0 Z = true := hw _ (List.mem_of_getElem? (i := 49) rfl)
theorem w_50 {a0 : Array Value} {Z : State} (hw : ∀ d ∈ tables_1, d.before a0 Z = true) : (Jvm.Cond.initialized "java/lang/Integer").before a0 Z = true := hw _ (List.mem_of_getElem? (i := 50) rfl)
theorem w_51 {a0 : Array Value} {Z : State} (hw : ∀ d ∈ tables_1, d.before a0 Z = true) : (Jvm.Cond.code ({ cls := "java/lang/Integer", name := "valueOf", desc := "(I)Ljava/lang/Integer;" } : Jvm.MethodName) jdk_33_method_22_code (1 : Nat) (Option.some (Jvm.ClassFile.FieldType.object "java/lang/Integer"))).before a0 Z = true := hw _ (List.mem_of_getElem? (i := 51) rfl)
theorem w_52 {a0 : Array Value} {Z : State} (hw : ∀ d ∈ tables_1, d.before a0 Z = true) : (Jvm.Cond.fieldLink "java/lang/Integer" (191 : Nat) "java/lang/Integer$IntegerCache" "high" "I").before a0 Z = true := hw _ (List.mem_of_getElem? (i := 52) rfl)
theorem w_53 {a0 : Array Value} {Z : State} (hw : ∀ d ∈ tables_1, d.before a0 Z = true) : (Jvm.Cond.initialized "java/lang/Integer$IntegerCache").before a0 Z = true := hw _ (List.mem_of_getElem? (i := 53) rfl)
theorem w_54 {a0 : Array Value} {Z : State} (hw : ∀ d ∈ tables_1, d.before a0 Z = true) : (Jvm.Cond.fieldLink "java/lang/Integer" (195 : Nat) "java/lang/Integer$IntegerCache" "cache" "[Ljava/lang/Integer;").before a0 Z = true := hw _ (List.mem_of_getElem? (i := 54) rfl)
theorem w_55 {a0 : Array Value} {Z : State} (hw : ∀ d ∈ tables_1, d.before a0 Z = true) : (Jvm.Cond.superclass "java/lang/Integer" "java/lang/Number").before a0 Z = true := hw _ (List.mem_of_getElem? (i := 55) rfl)
theorem w_56 {a0 : Array Value} {Z : State} (hw : ∀ d ∈ tables_1, d.before a0 Z = true) : (Jvm.Cond.superclass "java/lang/Number" "java/lang/Object").before a0 Z = true := hw _ (List.mem_of_getElem? (i := 56) rfl)
theorem w_57 {a0 : Array Value} {Z : State} (hw : ∀ d ∈ tables_1, d.before a0 Z = true) : (Jvm.Cond.noSuperclass "java/lang/Object").before a0 Z = true := hw _ (List.mem_of_getElem? (i := 57) rfl)
theorem w_58 {a0 : Array Value} {Z : State} (hw : ∀ d ∈ tables_1, d.before a0 Z = true) : (Jvm.Cond.superclass "java/lang/String" "java/lang/Object").before a0 Z = true := hw _ (List.mem_of_getElem? (i := 58) rfl)
theorem w_59 {a0 : Array Value} {Z : State} (hw : ∀ d ∈ tables_1, d.before a0 Z = true) : (Jvm.Cond.classLink "java/lang/Integer" (1 : Nat) "java/lang/Integer").before a0 Z = true := hw _ (List.mem_of_getElem? (i := 59) rfl)
theorem w_60 {a0 : Array Value} {Z : State} (hw : ∀ d ∈ tables_1, d.before a0 Z = true) : (Jvm.Cond.instantiable "java/lang/Integer" (1 : Nat)).before a0 Z = true := hw _ (List.mem_of_getElem? (i := 60) rfl)
theorem w_61 {a0 : Array Value} {Z : State} (hw : ∀ d ∈ tables_1, d.before a0 Z = true) : (Jvm.Cond.methodLink "java/lang/Integer" (199 : Nat) ({ cls := "java/lang/Integer", name := "<init>", desc := "(I)V" } : Jvm.MethodName)).before a0 Z = true := hw _ (List.mem_of_getElem? (i := 61) rfl)
theorem w_62 {a0 : Array Value} {Z : State} (hw : ∀ d ∈ tables_1, d.before a0 Z = true) : (Jvm.Cond.instanceMethod ({ cls := "java/lang/Integer", name := "<init>", desc := "(I)V" } : Jvm.MethodName)).before a0 Z = true := hw _ (List.mem_of_getElem? (i := 62) rfl)
theorem w_64 {a0 : Array Value} {Z : State} (hw : ∀ d ∈ tables_1, d.before a0 Z = true) : (Jvm.Cond.code ({ cls := "java/lang/Integer", name := "<init>", desc := "(I)V" } : Jvm.MethodName) jdk_33_method_23_code (2 : Nat) (Option.none : Option Jvm.ClassFile.FieldType)).before a0 Z = true := hw _ (List.mem_of_getElem? (i := 64) rfl)
theorem w_65 {a0 : Array Value} {Z : State} (hw : ∀ d ∈ tables_1, d.before a0 Z = true) : (Jvm.Cond.methodLink "java/lang/Integer" (202 : Nat) ({ cls := "java/lang/Number", name := "<init>", desc := "()V" } : Jvm.MethodName)).before a0 Z = true := hw _ (List.mem_of_getElem? (i := 65) rfl)
theorem w_66 {a0 : Array Value} {Z : State} (hw : ∀ d ∈ tables_1, d.before a0 Z = true) : (Jvm.Cond.instanceMethod ({ cls := "java/lang/Number", name := "<init>", desc := "()V" } : Jvm.MethodName)).before a0 Z = true := hw _ (List.mem_of_getElem? (i := 66) rfl)
theorem w_69 {a0 : Array Value} {Z : State} (hw : ∀ d ∈ tables_1, d.before a0 Z = true) : (Jvm.Cond.initialized "java/lang/Number").before a0 Z = true := hw _ (List.mem_of_getElem? (i := 69) rfl)
theorem w_70 {a0 : Array Value} {Z : State} (hw : ∀ d ∈ tables_1, d.before a0 Z = true) : (Jvm.Cond.code ({ cls := "java/lang/Number", name := "<init>", desc := "()V" } : Jvm.MethodName) jdk_18_method_1_code (1 : Nat) (Option.none : Option Jvm.ClassFile.FieldType)).before a0 Z = true := hw _ (List.mem_of_getElem? (i := 70) rfl)
theorem w_71 {a0 : Array Value} {Z : State} (hw : ∀ d ∈ tables_1, d.before a0 Z = true) : (Jvm.Cond.methodLink "java/lang/Number" (1 : Nat) ({ cls := "java/lang/Object", name := "<init>", desc := "()V" } : Jvm.MethodName)).before a0 Z = true := hw _ (List.mem_of_getElem? (i := 71) rfl)
theorem w_72 {a0 : Array Value} {Z : State} (hw : ∀ d ∈ tables_1, d.before a0 Z = true) : (Jvm.Cond.fieldLink "java/lang/Integer" (205 : Nat) "java/lang/Integer" "value" "I").before a0 Z = true := hw _ (List.mem_of_getElem? (i := 72) rfl)
theorem w_73 {a0 : Array Value} {Z : State} (hw : ∀ d ∈ tables_1, d.before a0 Z = true) : (Jvm.Cond.laysFinal "java/lang/Integer" "java/lang/Integer" "value" "I").before a0 Z = true := hw _ (List.mem_of_getElem? (i := 73) rfl)
theorem ef_numInit (m : MethodId) (x0 : Addr) : entryFrame m #[(.ref x0)] 1 = mkF m 0 #[.val (.ref x0)] [] := by first | rfl | (simp [entryFrame, mkF, argsToLocals, Value.category, maxLocals]; done)
theorem pn_java_lang_Number : plainName "java/lang/Number" = true := by first | (simp [plainName, overriddenIn]; done) | decide +kernel
theorem d0_0 : decode jdk_18_method_1_code 0 = .ok (.aload_n 0, 1) := by decide +kernel
theorem d0_1 : decode jdk_18_method_1_code 1 = .ok (.invokespecial 1, 3) := by decide +kernel
theorem d0_4 : decode jdk_18_method_1_code 4 = .ok (.return_, 1) := by decide +kernel
def Q_numInit (Z : State) (a : Addr) (h0 : Heap) (v : Option Value) (h : Heap) : Prop := v = none
set_option maxRecDepth 65536 in
set_option maxHeartbeats 40000000 in
theorem rm_numInit (l : Launch) (Z : State) (a0 : Array Value) (hw : ∀ d ∈ tables_1, d.before a0 Z = true) (wl : List Jvm.Cond) (zc : Int32) (ca : Addr) (kca : ClassId) (cvs : List Value) (S_String_COMPACT_STRINGS : Sta Z Z.heap "java/lang/String" "COMPACT_STRINGS" "Z" (.int zc)) (hzc : ¬ (zc = (0 : Int32))) (S_Integer_IntegerCache_high : Sta Z Z.heap "java/lang/Integer$IntegerCache" "high" "I" (.int (127 : Int32))) (S_Integer_IntegerCache_cache : Sta Z Z.heap "java/lang/Integer$IntegerCache" "cache" "[Ljava/lang/Integer;" (.ref ca)) (A_cache : Arv Z Z.heap ca kca (.object "java/lang/Integer") (256 : Int32) cvs .null) (C_cache : ∀ i, i < 256 → ∃ r, cvs.getD i .null = .ref r ∧ Exa Z Z.heap r "java/lang/Integer") (a : Addr) (h0 : Heap) (n0 : Nat) (O0 : Old Z n0 h0)  :
    Met l (⟨"java/lang/Number", "<init>", "()V"⟩ : MethodName) jdk_18_method_1_code 1 none wl ({ frames := 1, cells := 0, slots := 0, locals := 12 } : Room) Z #[(.ref a)] h0 n0 [] (Q_numInit Z a h0) := by
  refine met_intro (own := "java/lang/Number") (nm := "<init>") pn_java_lang_Number rfl rfl O0 ?_
  intro p e s m below meth c T0 X0
  refine Go.cast (ef_numInit m (a) ) ?_
  have n0le := X0.n0le
  refine o_aloadN (pc' := 1) (v := (.ref a)) X0 d0_0 rfl rfl rfl ?_
  refine o_initO (pc' := 4) (W := 0) X0 (w_71 hw) (w_13 hw) (w_14 hw) rfl (by decide) (Nat.le_of_eq rfl) (by decide) d0_1 rfl ?_
  intro T1 X2
  exact o_ret X2 d0_4 rfl (by decide) (by decide) rfl
theorem ef_intInit (m : MethodId) (x0 : Addr) (x1 : Int32) : entryFrame m #[(.ref x0), (.int x1)] 2 = mkF m 0 #[.val (.ref x0), .val (.int x1)] [] := by first | rfl | (simp [entryFrame, mkF, argsToLocals, Value.category, maxLocals]; done)
theorem pn_java_lang_Integer : plainName "java/lang/Integer" = true := by first | (simp [plainName, overriddenIn]; done) | decide +kernel
theorem d1_0 : decode jdk_33_method_23_code 0 = .ok (.aload_n 0, 1) := by decide +kernel
theorem d1_1 : decode jdk_33_method_23_code 1 = .ok (.invokespecial 202, 3) := by decide +kernel
theorem pd_0 : parseMethodDescriptor "()V" = some ⟨[], none⟩ := by decide +kernel
theorem d1_4 : decode jdk_33_method_23_code 4 = .ok (.aload_n 0, 1) := by decide +kernel
theorem d1_5 : decode jdk_33_method_23_code 5 = .ok (.iload_n 1, 1) := by decide +kernel
theorem d1_6 : decode jdk_33_method_23_code 6 = .ok (.putfield 205, 3) := by decide +kernel
theorem d1_9 : decode jdk_33_method_23_code 9 = .ok (.return_, 1) := by decide +kernel
def Q_intInit (Z : State) (a : Addr) (x : Int32) (u : Value) (h0 : Heap) (v : Option Value) (h : Heap) : Prop := v = none ∧ Exa Z h a "java/lang/Integer" ∧ Fld Z h a "java/lang/Integer" "value" "I" (.int x)
set_option maxRecDepth 65536 in
set_option maxHeartbeats 40000000 in
theorem rm_intInit (l : Launch) (Z : State) (a0 : Array Value) (hw : ∀ d ∈ tables_1, d.before a0 Z = true) (wl : List Jvm.Cond) (zc : Int32) (ca : Addr) (kca : ClassId) (cvs : List Value) (S_String_COMPACT_STRINGS : Sta Z Z.heap "java/lang/String" "COMPACT_STRINGS" "Z" (.int zc)) (hzc : ¬ (zc = (0 : Int32))) (S_Integer_IntegerCache_high : Sta Z Z.heap "java/lang/Integer$IntegerCache" "high" "I" (.int (127 : Int32))) (S_Integer_IntegerCache_cache : Sta Z Z.heap "java/lang/Integer$IntegerCache" "cache" "[Ljava/lang/Integer;" (.ref ca)) (A_cache : Arv Z Z.heap ca kca (.object "java/lang/Integer") (256 : Int32) cvs .null) (C_cache : ∀ i, i < 256 → ∃ r, cvs.getD i .null = .ref r ∧ Exa Z Z.heap r "java/lang/Integer") (a : Addr) (x : Int32) (u : Value) (h0 : Heap) (n0 : Nat) (O0 : Old Z n0 h0) (F0_a : Exa Z h0 a "java/lang/Integer") (F1_a_value : Fld Z h0 a "java/lang/Integer" "value" "I" u) (n0_a : n0 ≤ a) :
    Met l (⟨"java/lang/Integer", "<init>", "(I)V"⟩ : MethodName) jdk_33_method_23_code 2 none wl ({ frames := 2, cells := 0, slots := 0, locals := 24 } : Room) Z #[(.ref a), (.int x)] h0 n0 [a] (Q_intInit Z a x u h0) := by
  refine met_intro (own := "java/lang/Integer") (nm := "<init>") pn_java_lang_Integer rfl rfl O0 ?_
  intro p e s m below meth c T0 X0
  refine Go.cast (ef_intInit m (a) (x) ) ?_
  have n0le := X0.n0le
  have lt_a := F0_a.lt
  refine o_aloadN (pc' := 1) (v := (.ref a)) X0 d1_0 rfl rfl rfl ?_
  refine o_special (pc' := 4) (argsL := []) (rest := []) (b := a) (ws' := []) X0 rfl (w_65 hw) (w_66 hw) (w_70 hw) (by decide) (lenOf pd_0 rfl) (back_met (W := 0) (rm_numInit l Z a0 hw [] zc ca kca cvs S_String_COMPACT_STRINGS hzc S_Integer_IntegerCache_high S_Integer_IntegerCache_cache A_cache C_cache (a) h0 n0 X0.old ) X0 (w_70 hw) (w_69 hw) (by decide) (by decide)) d1_1 rfl rfl rfl (Nat.le_of_eq rfl) (by decide) (by decide) qq_fr all0 ?_
  rintro v1 T1 h1 L1 X1 ⟨-, -, Q1⟩ K1
  have z1 := K1.1
  obtain rfl := Q1
  show Go p.tables e below _ (T1.setTop (mkF m 4 #[.val (.ref a), .val (.int x)] []))
  refine o_aloadN (pc' := 5) (v := (.ref a)) X1 d1_4 rfl rfl rfl ?_
  refine o_iloadN (pc' := 6) (v := x) X1 d1_5 rfl rfl ?_
  have f2 := (F1_a_value.keep K1 nin0)
  have f3 := (F0_a.keep K1)
  refine o_putF (pc' := 9) (v' := (.int x)) (ty := .int) X1 (w_72 hw) Via.refl f2 f3 (Or.inr ⟨(w_73 hw), rfl, rfl⟩) (w_60 hw) (by decide) rfl rfl d1_6 rfl (by omega) (Or.inl (by simp)) ?_
  intro T4 h4 X4 W4
  have z4 := W4.size
  have f5 : Fld Z h4 a "java/lang/Integer" "value" "I" (.int x) := f2.same W4
  have f6 := (f3.wr W4)
  exact o_ret X4 d1_9 rfl (by decide) (by decide) ⟨rfl, f6, f5⟩
theorem ef_intValueOf (m : MethodId) (x0 : Int32) : entryFrame m #[(.int x0)] 1 = mkF m 0 #[.val (.int x0)] [] := by first | rfl | (simp [entryFrame, mkF, argsToLocals, Value.category, maxLocals]; done)
theorem d2_0 : decode jdk_33_method_22_code 0 = .ok (.iload_n 0, 1) := by decide +kernel
theorem d2_1 : decode jdk_33_method_22_code 1 = .ok (.bipush (-128), 2) := by decide +kernel
theorem d2_3 : decode jdk_33_method_22_code 3 = .ok (.if_icmp .lt 20, 3) := by decide +kernel
theorem d2_23 : decode jdk_33_method_22_code 23 = .ok (.new 1, 3) := by decide +kernel
theorem d2_26 : decode jdk_33_method_22_code 26 = .ok (.dup, 1) := by decide +kernel
theorem d2_27 : decode jdk_33_method_22_code 27 = .ok (.iload_n 0, 1) := by decide +kernel
theorem d2_28 : decode jdk_33_method_22_code 28 = .ok (.invokespecial 199, 3) := by decide +kernel
theorem pd_1 : parseMethodDescriptor "(I)V" = some ⟨[.int], none⟩ := by decide +kernel
theorem d2_31 : decode jdk_33_method_22_code 31 = .ok (.areturn, 1) := by decide +kernel
theorem d2_6 : decode jdk_33_method_22_code 6 = .ok (.iload_n 0, 1) := by decide +kernel
theorem d2_7 : decode jdk_33_method_22_code 7 = .ok (.getstatic 191, 3) := by decide +kernel
theorem d2_10 : decode jdk_33_method_22_code 10 = .ok (.if_icmp .gt 13, 3) := by decide +kernel
theorem d2_13 : decode jdk_33_method_22_code 13 = .ok (.getstatic 195, 3) := by decide +kernel
theorem d2_16 : decode jdk_33_method_22_code 16 = .ok (.iload_n 0, 1) := by decide +kernel
theorem d2_17 : decode jdk_33_method_22_code 17 = .ok (.sipush 128, 3) := by decide +kernel
theorem d2_20 : decode jdk_33_method_22_code 20 = .ok (.iadd, 1) := by decide +kernel
theorem d2_21 : decode jdk_33_method_22_code 21 = .ok (.aaload, 1) := by decide +kernel
theorem d2_22 : decode jdk_33_method_22_code 22 = .ok (.areturn, 1) := by decide +kernel
def Q_intValueOf (Z : State) (x : Int32) (h0 : Heap) (v : Option Value) (h : Heap) : Prop := ∃ (r : Addr), v = some (.ref r) ∧ Exa Z h r "java/lang/Integer"
set_option maxRecDepth 65536 in
set_option maxHeartbeats 40000000 in
theorem rm_intValueOf (l : Launch) (Z : State) (a0 : Array Value) (hw : ∀ d ∈ tables_1, d.before a0 Z = true) (wl : List Jvm.Cond) (zc : Int32) (ca : Addr) (kca : ClassId) (cvs : List Value) (S_String_COMPACT_STRINGS : Sta Z Z.heap "java/lang/String" "COMPACT_STRINGS" "Z" (.int zc)) (hzc : ¬ (zc = (0 : Int32))) (S_Integer_IntegerCache_high : Sta Z Z.heap "java/lang/Integer$IntegerCache" "high" "I" (.int (127 : Int32))) (S_Integer_IntegerCache_cache : Sta Z Z.heap "java/lang/Integer$IntegerCache" "cache" "[Ljava/lang/Integer;" (.ref ca)) (A_cache : Arv Z Z.heap ca kca (.object "java/lang/Integer") (256 : Int32) cvs .null) (C_cache : ∀ i, i < 256 → ∃ r, cvs.getD i .null = .ref r ∧ Exa Z Z.heap r "java/lang/Integer") (x : Int32) (h0 : Heap) (n0 : Nat) (O0 : Old Z n0 h0)  :
    Met l (⟨"java/lang/Integer", "valueOf", "(I)Ljava/lang/Integer;"⟩ : MethodName) jdk_33_method_22_code 1 (some (.object "java/lang/Integer")) wl ({ frames := 3, cells := 1, slots := 1, locals := 38 } : Room) Z #[(.int x)] h0 n0 [] (Q_intValueOf Z x h0) := by
  refine met_intro (own := "java/lang/Integer") (nm := "valueOf") pn_java_lang_Integer rfl rfl O0 ?_
  intro p e s m below meth c T0 X0
  refine Go.cast (ef_intValueOf m (x) ) ?_
  have n0le := X0.n0le
  have Ac := A_cache.ext X0.old.2
  refine o_iloadN (pc' := 1) (v := x) X0 d2_0 rfl rfl ?_
  refine o_bipush (pc' := 3) (v := (-128 : Int32)) X0 d2_1 rfl (by decide) ?_
  by_cases hc1 : x < (-128 : Int32)
  · refine o_icmpYes (pc' := 23) X0 d2_3 (by decide) (by decide) (tlt hc1).1 ?_
    refine o_new (pc' := 26) X0 (w_59 hw) (w_60 hw) (w_50 hw) d2_23 rfl (by decide) (by decide) ?_
    intro T2 h2 b2 X2 g2 l2 E2 A2 D2 U2
    have f3 : Fld Z h2 b2 "java/lang/Integer" "value" "I" (.int (0 : Int32)) := D2 (Or.inr (w_73 hw)) (ty := .int) (by decide)
    refine o_dup (pc' := 27) X2 d2_26 rfl rfl ?_
    refine o_iloadN (pc' := 28) (v := x) X2 d2_27 rfl rfl ?_
    refine o_special (pc' := 31) (argsL := [(.int x)]) (rest := [(.ref b2)]) (b := b2) (ws' := [b2]) X2 rfl (w_61 hw) (w_62 hw) (w_64 hw) (by decide) (lenOf pd_1 rfl) (back_met (W := 1) (rm_intInit l Z a0 hw [] zc ca kca cvs S_String_COMPACT_STRINGS hzc S_Integer_IntegerCache_high S_Integer_IntegerCache_cache A_cache C_cache (b2) (x) ((.int (0 : Int32))) h2 n0 X2.old A2 f3 (by omega)) X2 (w_64 hw) (w_50 hw) (by decide) (by decide)) d2_28 rfl rfl rfl (Nat.le_of_eq rfl) (by decide) (by decide) qq_fr (allS ⟨by omega, (Or.inr (by omega))⟩ all0) ?_
    rintro v4 T4 h4 L4 X4 ⟨-, -, Q4⟩ K4
    have z4 := K4.1
    obtain ⟨rfl, q5, q6⟩ := Q4
    show Go p.tables e below _ (T4.setTop (mkF m 31 #[.val (.int x)] [(.ref b2)]))
    exact o_aret X4 d2_31 rfl rfl rfl (by decide) (by decide) ⟨b2, rfl, q5⟩
  · refine o_icmpNo (pc' := 6) X0 d2_3 rfl (flt hc1).1 ?_
    refine o_iloadN (pc' := 7) (v := x) X0 d2_6 rfl rfl ?_
    refine o_getS (pc' := 10) X0 (w_52 hw) Via.refl (S_Integer_IntegerCache_high.ext X0.old.2) d2_7 rfl ?_
    intro T7 X8
    by_cases hc9 : (127 : Int32) < x
    · refine o_icmpYes (pc' := 23) X8 d2_10 (by decide) (by decide) (tlt hc9).2.2.1 ?_
      refine o_new (pc' := 26) X8 (w_59 hw) (w_60 hw) (w_50 hw) d2_23 rfl (by decide) (by decide) ?_
      intro T10 h10 b10 X10 g10 l10 E10 A10 D10 U10
      have f11 : Fld Z h10 b10 "java/lang/Integer" "value" "I" (.int (0 : Int32)) := D10 (Or.inr (w_73 hw)) (ty := .int) (by decide)
      refine o_dup (pc' := 27) X10 d2_26 rfl rfl ?_
      refine o_iloadN (pc' := 28) (v := x) X10 d2_27 rfl rfl ?_
      refine o_special (pc' := 31) (argsL := [(.int x)]) (rest := [(.ref b10)]) (b := b10) (ws' := [b10]) X10 rfl (w_61 hw) (w_62 hw) (w_64 hw) (by decide) (lenOf pd_1 rfl) (back_met (W := 1) (rm_intInit l Z a0 hw [] zc ca kca cvs S_String_COMPACT_STRINGS hzc S_Integer_IntegerCache_high S_Integer_IntegerCache_cache A_cache C_cache (b10) (x) ((.int (0 : Int32))) h10 n0 X10.old A10 f11 (by omega)) X10 (w_64 hw) (w_50 hw) (by decide) (by decide)) d2_28 rfl rfl rfl (Nat.le_of_eq rfl) (by decide) (by decide) qq_fr (allS ⟨by omega, (Or.inr (by omega))⟩ all0) ?_
      rintro v12 T12 h12 L12 X12 ⟨-, -, Q12⟩ K12
      have z12 := K12.1
      obtain ⟨rfl, q13, q14⟩ := Q12
      show Go p.tables e below _ (T12.setTop (mkF m 31 #[.val (.int x)] [(.ref b10)]))
      exact o_aret X12 d2_31 rfl rfl rfl (by decide) (by decide) ⟨b10, rfl, q13⟩
    · refine o_icmpNo (pc' := 13) X8 d2_10 rfl (flt hc9).2.2.1 ?_
      refine o_getS (pc' := 16) X8 (w_54 hw) Via.refl (S_Integer_IntegerCache_cache.ext X8.old.2) d2_13 rfl ?_
      intro T15 X16
      refine o_iloadN (pc' := 17) (v := x) X16 d2_16 rfl rfl ?_
      refine o_sipush (pc' := 20) (v := (128 : Int32)) X16 d2_17 rfl (by decide) ?_
      refine o_iadd (pc' := 21) (v := (x + (128 : Int32))) X16 d2_20 rfl rfl ?_
      obtain ⟨r17, er17, Er17⟩ := C_cache _ (own_place x hc1 hc9).2
      have Fr17 := Er17.ext X16.old.2
      refine o_aaload (pc' := 22) (v := (.ref r17)) X16 Ac rfl (own_place x hc1 hc9).1 er17 d2_21 rfl ?_
      exact o_aret X16 d2_22 rfl rfl rfl (by decide) (by decide) ⟨r17, rfl, Fr17⟩
theorem ef_keyInit (m : MethodId) (x0 : Addr) (x1 : Addr) : entryFrame m #[(.ref x0), (.ref x1)] 2 = mkF m 0 #[.val (.ref x0), .val (.ref x1)] [] := by first | rfl | (simp [entryFrame, mkF, argsToLocals, Value.category, maxLocals]; done)
theorem pn_com_example_plain_mapper_plainmapper_BinaryKey : plainName "com/example/plain_mapper/plainmapper/BinaryKey" = true := by first | (simp [plainName, overriddenIn]; done) | decide +kernel
theorem d3_0 : decode prog_7_method_1_code 0 = .ok (.aload_n 0, 1) := by decide +kernel
theorem d3_1 : decode prog_7_method_1_code 1 = .ok (.invokespecial 1, 3) := by decide +kernel
theorem d3_4 : decode prog_7_method_1_code 4 = .ok (.aload_n 0, 1) := by decide +kernel
theorem d3_5 : decode prog_7_method_1_code 5 = .ok (.aload_n 1, 1) := by decide +kernel
theorem d3_6 : decode prog_7_method_1_code 6 = .ok (.putfield 7, 3) := by decide +kernel
theorem d3_9 : decode prog_7_method_1_code 9 = .ok (.return_, 1) := by decide +kernel
def Q_keyInit (Z : State) (a : Addr) (x : Addr) (u : Value) (h0 : Heap) (v : Option Value) (h : Heap) : Prop := v = none ∧ Exa Z h a "com/example/plain_mapper/plainmapper/BinaryKey" ∧ Fld Z h a "com/example/plain_mapper/plainmapper/BinaryKey" "bytes" "[B" (.ref x)
set_option maxRecDepth 65536 in
set_option maxHeartbeats 40000000 in
theorem rm_keyInit (l : Launch) (Z : State) (a0 : Array Value) (hw : ∀ d ∈ tables_1, d.before a0 Z = true) (wl : List Jvm.Cond) (zc : Int32) (ca : Addr) (kca : ClassId) (cvs : List Value) (S_String_COMPACT_STRINGS : Sta Z Z.heap "java/lang/String" "COMPACT_STRINGS" "Z" (.int zc)) (hzc : ¬ (zc = (0 : Int32))) (S_Integer_IntegerCache_high : Sta Z Z.heap "java/lang/Integer$IntegerCache" "high" "I" (.int (127 : Int32))) (S_Integer_IntegerCache_cache : Sta Z Z.heap "java/lang/Integer$IntegerCache" "cache" "[Ljava/lang/Integer;" (.ref ca)) (A_cache : Arv Z Z.heap ca kca (.object "java/lang/Integer") (256 : Int32) cvs .null) (C_cache : ∀ i, i < 256 → ∃ r, cvs.getD i .null = .ref r ∧ Exa Z Z.heap r "java/lang/Integer") (a : Addr) (x : Addr) (u : Value) (h0 : Heap) (n0 : Nat) (O0 : Old Z n0 h0) (F0_a : Exa Z h0 a "com/example/plain_mapper/plainmapper/BinaryKey") (F1_a_bytes : Fld Z h0 a "com/example/plain_mapper/plainmapper/BinaryKey" "bytes" "[B" u) (n0_a : n0 ≤ a) :
    Met l (⟨"com/example/plain_mapper/plainmapper/BinaryKey", "<init>", "([B)V"⟩ : MethodName) prog_7_method_1_code 2 none wl ({ frames := 1, cells := 0, slots := 0, locals := 12 } : Room) Z #[(.ref a), (.ref x)] h0 n0 [a] (Q_keyInit Z a x u h0) := by
  refine met_intro (own := "com/example/plain_mapper/plainmapper/BinaryKey") (nm := "<init>") pn_com_example_plain_mapper_plainmapper_BinaryKey rfl rfl O0 ?_
  intro p e s m below meth c T0 X0
  refine Go.cast (ef_keyInit m (a) (x) ) ?_
  have n0le := X0.n0le
  have lt_a := F0_a.lt
  refine o_aloadN (pc' := 1) (v := (.ref a)) X0 d3_0 rfl rfl rfl ?_
  refine o_initO (pc' := 4) (W := 0) X0 (w_41 hw) (w_13 hw) (w_14 hw) rfl (by decide) (Nat.le_of_eq rfl) (by decide) d3_1 rfl ?_
  intro T1 X2
  refine o_aloadN (pc' := 5) (v := (.ref a)) X2 d3_4 rfl rfl rfl ?_
  refine o_aloadN (pc' := 6) (v := (.ref x)) X2 d3_5 rfl rfl rfl ?_
  refine o_putF (pc' := 9) (v' := (.ref x)) (ty := (.array .byte)) X2 (w_42 hw) Via.refl F1_a_bytes F0_a (Or.inr ⟨(w_43 hw), rfl, rfl⟩) (w_37 hw) (by decide) rfl rfl d3_6 rfl (by omega) (Or.inl (by simp)) ?_
  intro T3 h3 X3 W3
  have z3 := W3.size
  have f4 : Fld Z h3 a "com/example/plain_mapper/plainmapper/BinaryKey" "bytes" "[B" (.ref x) := F1_a_bytes.same W3
  have f5 := (F0_a.wr W3)
  exact o_ret X3 d3_9 rfl (by decide) (by decide) ⟨rfl, f5, f4⟩
theorem ef_ofArr (m : MethodId) (x0 : Addr) : entryFrame m #[(.ref x0)] 1 = mkF m 0 #[.val (.ref x0)] [] := by first | rfl | (simp [entryFrame, mkF, argsToLocals, Value.category, maxLocals]; done)
theorem d4_0 : decode prog_7_method_2_code 0 = .ok (.aload_n 0, 1) := by decide +kernel
theorem d4_1 : decode prog_7_method_2_code 1 = .ok (.instanceof 13, 3) := by decide +kernel
theorem d4_4 : decode prog_7_method_2_code 4 = .ok (.ifCond .eq 17, 3) := by decide +kernel
theorem d4_7 : decode prog_7_method_2_code 7 = .ok (.new 8, 3) := by decide +kernel
theorem d4_10 : decode prog_7_method_2_code 10 = .ok (.dup, 1) := by decide +kernel
theorem d4_11 : decode prog_7_method_2_code 11 = .ok (.aload_n 0, 1) := by decide +kernel
theorem d4_12 : decode prog_7_method_2_code 12 = .ok (.checkcast 13, 3) := by decide +kernel
theorem d4_15 : decode prog_7_method_2_code 15 = .ok (.invokespecial 14, 3) := by decide +kernel
theorem pd_2 : parseMethodDescriptor "([B)V" = some ⟨[(.array .byte)], none⟩ := by decide +kernel
theorem d4_18 : decode prog_7_method_2_code 18 = .ok (.goto 4, 3) := by decide +kernel
theorem d4_22 : decode prog_7_method_2_code 22 = .ok (.areturn, 1) := by decide +kernel
def Q_ofArr (Z : State) (x : Addr) (h0 : Heap) (v : Option Value) (h : Heap) : Prop := ∃ (r : Addr), v = some (.ref r) ∧ Exa Z h r "com/example/plain_mapper/plainmapper/BinaryKey" ∧ Fld Z h r "com/example/plain_mapper/plainmapper/BinaryKey" "bytes" "[B" (.ref x) ∧ h0.size ≤ r
set_option maxRecDepth 65536 in
set_option maxHeartbeats 40000000 in
theorem rm_ofArr (l : Launch) (Z : State) (a0 : Array Value) (hw : ∀ d ∈ tables_1, d.before a0 Z = true) (wl : List Jvm.Cond) (zc : Int32) (ca : Addr) (kca : ClassId) (cvs : List Value) (S_String_COMPACT_STRINGS : Sta Z Z.heap "java/lang/String" "COMPACT_STRINGS" "Z" (.int zc)) (hzc : ¬ (zc = (0 : Int32))) (S_Integer_IntegerCache_high : Sta Z Z.heap "java/lang/Integer$IntegerCache" "high" "I" (.int (127 : Int32))) (S_Integer_IntegerCache_cache : Sta Z Z.heap "java/lang/Integer$IntegerCache" "cache" "[Ljava/lang/Integer;" (.ref ca)) (A_cache : Arv Z Z.heap ca kca (.object "java/lang/Integer") (256 : Int32) cvs .null) (C_cache : ∀ i, i < 256 → ∃ r, cvs.getD i .null = .ref r ∧ Exa Z Z.heap r "java/lang/Integer") (x : Addr) (h0 : Heap) (n0 : Nat) (O0 : Old Z n0 h0) (F0_x : Ins Z h0 x "[B" true) :
    Met l (⟨"com/example/plain_mapper/plainmapper/BinaryKey", "of", "(Ljava/lang/Object;)Ljava/lang/Object;"⟩ : MethodName) prog_7_method_2_code 1 (some (.object "java/lang/Object")) wl ({ frames := 2, cells := 1, slots := 1, locals := 26 } : Room) Z #[(.ref x)] h0 n0 [] (Q_ofArr Z x h0) := by
  refine met_intro (own := "com/example/plain_mapper/plainmapper/BinaryKey") (nm := "of") pn_com_example_plain_mapper_plainmapper_BinaryKey rfl rfl O0 ?_
  intro p e s m below meth c T0 X0
  refine Go.cast (ef_ofArr m (x) ) ?_
  have n0le := X0.n0le
  refine o_aloadN (pc' := 1) (v := (.ref x)) X0 d4_0 rfl rfl rfl ?_
  refine o_instY (pc' := 4) X0 (w_34 hw) F0_x d4_1 rfl ?_
  intro T1 X2
  refine o_ifNo (pc' := 7) X2 d4_4 rfl ((if0 _ _).trans (feq (by decide)).1) ?_
  refine o_new (pc' := 10) X2 (w_36 hw) (w_37 hw) (w_32 hw) d4_7 rfl (by decide) (by decide) ?_
  intro T3 h3 b3 X3 g3 l3 E3 A3 D3 U3
  have f4 : Fld Z h3 b3 "com/example/plain_mapper/plainmapper/BinaryKey" "bytes" "[B" .null := D3 (Or.inr (w_43 hw)) (ty := (.array .byte)) (by decide)
  refine o_dup (pc' := 11) X3 d4_10 rfl rfl ?_
  refine o_aloadN (pc' := 12) (v := (.ref x)) X3 d4_11 rfl rfl rfl ?_
  have f5 := (F0_x.ext E3)
  refine o_castY (pc' := 15) X3 (w_34 hw) f5 d4_12 rfl ?_
  intro T6 X7
  refine o_special (pc' := 18) (argsL := [(.ref x)]) (rest := [(.ref b3)]) (b := b3) (ws' := [b3]) X7 rfl (w_38 hw) (w_39 hw) (w_40 hw) (by decide) (lenOf pd_2 rfl) (back_met (W := 1) (rm_keyInit l Z a0 hw [] zc ca kca cvs S_String_COMPACT_STRINGS hzc S_Integer_IntegerCache_high S_Integer_IntegerCache_cache A_cache C_cache (b3) (x) (.null) h3 n0 X7.old A3 f4 (by omega)) X7 (w_40 hw) (w_32 hw) (by decide) (by decide)) d4_15 rfl rfl rfl (Nat.le_of_eq rfl) (by decide) (by decide) qq_fr (allS ⟨by omega, (Or.inr (by omega))⟩ all0) ?_
  rintro v8 T8 h8 L8 X8 ⟨-, -, Q8⟩ K8
  have z8 := K8.1
  obtain ⟨rfl, q9, q10⟩ := Q8
  show Go p.tables e below _ (T8.setTop (mkF m 18 #[.val (.ref x)] [(.ref b3)]))
  refine o_goto (pc' := 22) X8 d4_18 (by decide) (by decide) ?_
  exact o_aret X8 d4_22 rfl rfl rfl (by decide) (by decide) ⟨b3, rfl, q9, q10, (by omega)⟩
theorem ef_ofNull (m : MethodId)  : entryFrame m #[.null] 1 = mkF m 0 #[.val .null] [] := by first | rfl | (simp [entryFrame, mkF, argsToLocals, Value.category, maxLocals]; done)
theorem d4_21 : decode prog_7_method_2_code 21 = .ok (.aload_n 0, 1) := by decide +kernel
def Q_ofNull (Z : State)  (h0 : Heap) (v : Option Value) (h : Heap) : Prop := v = some .null
set_option maxRecDepth 65536 in
set_option maxHeartbeats 40000000 in
theorem rm_ofNull (l : Launch) (Z : State) (a0 : Array Value) (hw : ∀ d ∈ tables_1, d.before a0 Z = true) (wl : List Jvm.Cond) (zc : Int32) (ca : Addr) (kca : ClassId) (cvs : List Value) (S_String_COMPACT_STRINGS : Sta Z Z.heap "java/lang/String" "COMPACT_STRINGS" "Z" (.int zc)) (hzc : ¬ (zc = (0 : Int32))) (S_Integer_IntegerCache_high : Sta Z Z.heap "java/lang/Integer$IntegerCache" "high" "I" (.int (127 : Int32))) (S_Integer_IntegerCache_cache : Sta Z Z.heap "java/lang/Integer$IntegerCache" "cache" "[Ljava/lang/Integer;" (.ref ca)) (A_cache : Arv Z Z.heap ca kca (.object "java/lang/Integer") (256 : Int32) cvs .null) (C_cache : ∀ i, i < 256 → ∃ r, cvs.getD i .null = .ref r ∧ Exa Z Z.heap r "java/lang/Integer")  (h0 : Heap) (n0 : Nat) (O0 : Old Z n0 h0)  :
    Met l (⟨"com/example/plain_mapper/plainmapper/BinaryKey", "of", "(Ljava/lang/Object;)Ljava/lang/Object;"⟩ : MethodName) prog_7_method_2_code 1 (some (.object "java/lang/Object")) wl ({ frames := 0, cells := 0, slots := 0, locals := 0 } : Room) Z #[.null] h0 n0 [] (Q_ofNull Z  h0) := by
  refine met_intro (own := "com/example/plain_mapper/plainmapper/BinaryKey") (nm := "of") pn_com_example_plain_mapper_plainmapper_BinaryKey rfl rfl O0 ?_
  intro p e s m below meth c T0 X0
  refine Go.cast (ef_ofNull m  ) ?_
  have n0le := X0.n0le
  refine o_aloadN (pc' := 1) (v := .null) X0 d4_0 rfl rfl rfl ?_
  refine o_instNull (pc' := 4) X0 d4_1 rfl ?_
  refine o_ifYes (pc' := 21) X0 d4_4 (by decide) (by decide) ((if0 _ _).trans (teq (by decide)).1) ?_
  refine o_aloadN (pc' := 22) (v := .null) X0 d4_21 rfl rfl rfl ?_
  exact o_aret X0 d4_22 rfl rfl rfl (by decide) (by decide) rfl
theorem ef_valKey (m : MethodId) (x0 : Addr) : entryFrame m #[(.ref x0)] 1 = mkF m 0 #[.val (.ref x0)] [] := by first | rfl | (simp [entryFrame, mkF, argsToLocals, Value.category, maxLocals]; done)
theorem d5_0 : decode prog_7_method_3_code 0 = .ok (.aload_n 0, 1) := by decide +kernel
theorem d5_1 : decode prog_7_method_3_code 1 = .ok (.instanceof 8, 3) := by decide +kernel
theorem d5_4 : decode prog_7_method_3_code 4 = .ok (.ifCond .eq 13, 3) := by decide +kernel
theorem d5_7 : decode prog_7_method_3_code 7 = .ok (.aload_n 0, 1) := by decide +kernel
theorem d5_8 : decode prog_7_method_3_code 8 = .ok (.checkcast 8, 3) := by decide +kernel
theorem d5_11 : decode prog_7_method_3_code 11 = .ok (.getfield 7, 3) := by decide +kernel
theorem d5_14 : decode prog_7_method_3_code 14 = .ok (.goto 4, 3) := by decide +kernel
theorem d5_18 : decode prog_7_method_3_code 18 = .ok (.areturn, 1) := by decide +kernel
def Q_valKey (Z : State) (a : Addr) (x : Addr) (h0 : Heap) (v : Option Value) (h : Heap) : Prop := v = some (.ref x)
set_option maxRecDepth 65536 in
set_option maxHeartbeats 40000000 in
theorem rm_valKey (l : Launch) (Z : State) (a0 : Array Value) (hw : ∀ d ∈ tables_1, d.before a0 Z = true) (wl : List Jvm.Cond) (zc : Int32) (ca : Addr) (kca : ClassId) (cvs : List Value) (S_String_COMPACT_STRINGS : Sta Z Z.heap "java/lang/String" "COMPACT_STRINGS" "Z" (.int zc)) (hzc : ¬ (zc = (0 : Int32))) (S_Integer_IntegerCache_high : Sta Z Z.heap "java/lang/Integer$IntegerCache" "high" "I" (.int (127 : Int32))) (S_Integer_IntegerCache_cache : Sta Z Z.heap "java/lang/Integer$IntegerCache" "cache" "[Ljava/lang/Integer;" (.ref ca)) (A_cache : Arv Z Z.heap ca kca (.object "java/lang/Integer") (256 : Int32) cvs .null) (C_cache : ∀ i, i < 256 → ∃ r, cvs.getD i .null = .ref r ∧ Exa Z Z.heap r "java/lang/Integer") (a : Addr) (x : Addr) (h0 : Heap) (n0 : Nat) (O0 : Old Z n0 h0) (F0_a : Exa Z h0 a "com/example/plain_mapper/plainmapper/BinaryKey") (F1_a_bytes : Fld Z h0 a "com/example/plain_mapper/plainmapper/BinaryKey" "bytes" "[B" (.ref x)) :
    Met l (⟨"com/example/plain_mapper/plainmapper/BinaryKey", "value", "(Ljava/lang/Object;)Ljava/lang/Object;"⟩ : MethodName) prog_7_method_3_code 1 (some (.object "java/lang/Object")) wl ({ frames := 0, cells := 0, slots := 0, locals := 0 } : Room) Z #[(.ref a)] h0 n0 [] (Q_valKey Z a x h0) := by
  refine met_intro (own := "com/example/plain_mapper/plainmapper/BinaryKey") (nm := "value") pn_com_example_plain_mapper_plainmapper_BinaryKey rfl rfl O0 ?_
  intro p e s m below meth c T0 X0
  refine Go.cast (ef_valKey m (a) ) ?_
  have n0le := X0.n0le
  have lt_a := F0_a.lt
  refine o_aloadN (pc' := 1) (v := (.ref a)) X0 d5_0 rfl rfl rfl ?_
  refine o_instY (pc' := 4) X0 (w_36 hw) (Ins.self F0_a) d5_1 rfl ?_
  intro T1 X2
  refine o_ifNo (pc' := 7) X2 d5_4 rfl ((if0 _ _).trans (feq (by decide)).1) ?_
  refine o_aloadN (pc' := 8) (v := (.ref a)) X2 d5_7 rfl rfl rfl ?_
  refine o_castY (pc' := 11) X2 (w_36 hw) (Ins.self F0_a) d5_8 rfl ?_
  intro T3 X4
  refine o_getF (pc' := 14) X4 (w_42 hw) Via.refl F1_a_bytes d5_11 rfl ?_
  intro T5 X6
  refine o_goto (pc' := 18) X6 d5_14 (by decide) (by decide) ?_
  exact o_aret X6 d5_18 rfl rfl rfl (by decide) (by decide) rfl
theorem ef_valNull (m : MethodId)  : entryFrame m #[.null] 1 = mkF m 0 #[.val .null] [] := by first | rfl | (simp [entryFrame, mkF, argsToLocals, Value.category, maxLocals]; done)
theorem d5_17 : decode prog_7_method_3_code 17 = .ok (.aload_n 0, 1) := by decide +kernel
def Q_valNull (Z : State)  (h0 : Heap) (v : Option Value) (h : Heap) : Prop := v = some .null
set_option maxRecDepth 65536 in
set_option maxHeartbeats 40000000 in
theorem rm_valNull (l : Launch) (Z : State) (a0 : Array Value) (hw : ∀ d ∈ tables_1, d.before a0 Z = true) (wl : List Jvm.Cond) (zc : Int32) (ca : Addr) (kca : ClassId) (cvs : List Value) (S_String_COMPACT_STRINGS : Sta Z Z.heap "java/lang/String" "COMPACT_STRINGS" "Z" (.int zc)) (hzc : ¬ (zc = (0 : Int32))) (S_Integer_IntegerCache_high : Sta Z Z.heap "java/lang/Integer$IntegerCache" "high" "I" (.int (127 : Int32))) (S_Integer_IntegerCache_cache : Sta Z Z.heap "java/lang/Integer$IntegerCache" "cache" "[Ljava/lang/Integer;" (.ref ca)) (A_cache : Arv Z Z.heap ca kca (.object "java/lang/Integer") (256 : Int32) cvs .null) (C_cache : ∀ i, i < 256 → ∃ r, cvs.getD i .null = .ref r ∧ Exa Z Z.heap r "java/lang/Integer")  (h0 : Heap) (n0 : Nat) (O0 : Old Z n0 h0)  :
    Met l (⟨"com/example/plain_mapper/plainmapper/BinaryKey", "value", "(Ljava/lang/Object;)Ljava/lang/Object;"⟩ : MethodName) prog_7_method_3_code 1 (some (.object "java/lang/Object")) wl ({ frames := 0, cells := 0, slots := 0, locals := 0 } : Room) Z #[.null] h0 n0 [] (Q_valNull Z  h0) := by
  refine met_intro (own := "com/example/plain_mapper/plainmapper/BinaryKey") (nm := "value") pn_com_example_plain_mapper_plainmapper_BinaryKey rfl rfl O0 ?_
  intro p e s m below meth c T0 X0
  refine Go.cast (ef_valNull m  ) ?_
  have n0le := X0.n0le
  refine o_aloadN (pc' := 1) (v := .null) X0 d5_0 rfl rfl rfl ?_
  refine o_instNull (pc' := 4) X0 d5_1 rfl ?_
  refine o_ifYes (pc' := 17) X0 d5_4 (by decide) (by decide) ((if0 _ _).trans (teq (by decide)).1) ?_
  refine o_aloadN (pc' := 18) (v := .null) X0 d5_17 rfl rfl rfl ?_
  exact o_aret X0 d5_18 rfl rfl rfl (by decide) (by decide) rfl
theorem ef_ofInt (m : MethodId) (x0 : Addr) : entryFrame m #[(.ref x0)] 1 = mkF m 0 #[.val (.ref x0)] [] := by first | rfl | (simp [entryFrame, mkF, argsToLocals, Value.category, maxLocals]; done)
def Q_ofInt (Z : State) (x : Addr) (h0 : Heap) (v : Option Value) (h : Heap) : Prop := v = some (.ref x)
set_option maxRecDepth 65536 in
set_option maxHeartbeats 40000000 in
theorem rm_ofInt (l : Launch) (Z : State) (a0 : Array Value) (hw : ∀ d ∈ tables_1, d.before a0 Z = true) (wl : List Jvm.Cond) (zc : Int32) (ca : Addr) (kca : ClassId) (cvs : List Value) (S_String_COMPACT_STRINGS : Sta Z Z.heap "java/lang/String" "COMPACT_STRINGS" "Z" (.int zc)) (hzc : ¬ (zc = (0 : Int32))) (S_Integer_IntegerCache_high : Sta Z Z.heap "java/lang/Integer$IntegerCache" "high" "I" (.int (127 : Int32))) (S_Integer_IntegerCache_cache : Sta Z Z.heap "java/lang/Integer$IntegerCache" "cache" "[Ljava/lang/Integer;" (.ref ca)) (A_cache : Arv Z Z.heap ca kca (.object "java/lang/Integer") (256 : Int32) cvs .null) (C_cache : ∀ i, i < 256 → ∃ r, cvs.getD i .null = .ref r ∧ Exa Z Z.heap r "java/lang/Integer") (x : Addr) (h0 : Heap) (n0 : Nat) (O0 : Old Z n0 h0) (F0_x : Exa Z h0 x "java/lang/Integer") (NI : ∃ c t, Z.vm.findClass "java/lang/Integer" = some c ∧ Z.vm.findClass "[B" = some t ∧ Z.vm.assignable c t = false) :
    Met l (⟨"com/example/plain_mapper/plainmapper/BinaryKey", "of", "(Ljava/lang/Object;)Ljava/lang/Object;"⟩ : MethodName) prog_7_method_2_code 1 (some (.object "java/lang/Object")) wl ({ frames := 0, cells := 0, slots := 0, locals := 0 } : Room) Z #[(.ref x)] h0 n0 [] (Q_ofInt Z x h0) := by
  refine met_intro (own := "com/example/plain_mapper/plainmapper/BinaryKey") (nm := "of") pn_com_example_plain_mapper_plainmapper_BinaryKey rfl rfl O0 ?_
  intro p e s m below meth c T0 X0
  refine Go.cast (ef_ofInt m (x) ) ?_
  have n0le := X0.n0le
  have lt_x := F0_x.lt
  refine o_aloadN (pc' := 1) (v := (.ref x)) X0 d4_0 rfl rfl rfl ?_
  refine o_instNo (pc' := 4) X0 (w_34 hw) F0_x NI d4_1 rfl ?_
  intro T1 X2
  refine o_ifYes (pc' := 21) X2 d4_4 (by decide) (by decide) ((if0 _ _).trans (teq (by decide)).1) ?_
  refine o_aloadN (pc' := 22) (v := (.ref x)) X2 d4_21 rfl rfl rfl ?_
  exact o_aret X2 d4_22 rfl rfl rfl (by decide) (by decide) rfl
theorem ef_valInt (m : MethodId) (x0 : Addr) : entryFrame m #[(.ref x0)] 1 = mkF m 0 #[.val (.ref x0)] [] := by first | rfl | (simp [entryFrame, mkF, argsToLocals, Value.category, maxLocals]; done)
def Q_valInt (Z : State) (x : Addr) (h0 : Heap) (v : Option Value) (h : Heap) : Prop := v = some (.ref x)
set_option maxRecDepth 65536 in
set_option maxHeartbeats 40000000 in
theorem rm_valInt (l : Launch) (Z : State) (a0 : Array Value) (hw : ∀ d ∈ tables_1, d.before a0 Z = true) (wl : List Jvm.Cond) (zc : Int32) (ca : Addr) (kca : ClassId) (cvs : List Value) (S_String_COMPACT_STRINGS : Sta Z Z.heap "java/lang/String" "COMPACT_STRINGS" "Z" (.int zc)) (hzc : ¬ (zc = (0 : Int32))) (S_Integer_IntegerCache_high : Sta Z Z.heap "java/lang/Integer$IntegerCache" "high" "I" (.int (127 : Int32))) (S_Integer_IntegerCache_cache : Sta Z Z.heap "java/lang/Integer$IntegerCache" "cache" "[Ljava/lang/Integer;" (.ref ca)) (A_cache : Arv Z Z.heap ca kca (.object "java/lang/Integer") (256 : Int32) cvs .null) (C_cache : ∀ i, i < 256 → ∃ r, cvs.getD i .null = .ref r ∧ Exa Z Z.heap r "java/lang/Integer") (x : Addr) (h0 : Heap) (n0 : Nat) (O0 : Old Z n0 h0) (F0_x : Exa Z h0 x "java/lang/Integer") :
    Met l (⟨"com/example/plain_mapper/plainmapper/BinaryKey", "value", "(Ljava/lang/Object;)Ljava/lang/Object;"⟩ : MethodName) prog_7_method_3_code 1 (some (.object "java/lang/Object")) wl ({ frames := 0, cells := 0, slots := 0, locals := 0 } : Room) Z #[(.ref x)] h0 n0 [] (Q_valInt Z x h0) := by
  refine met_intro (own := "com/example/plain_mapper/plainmapper/BinaryKey") (nm := "value") pn_com_example_plain_mapper_plainmapper_BinaryKey rfl rfl O0 ?_
  intro p e s m below meth c T0 X0
  refine Go.cast (ef_valInt m (x) ) ?_
  have n0le := X0.n0le
  have lt_x := F0_x.lt
  refine o_aloadN (pc' := 1) (v := (.ref x)) X0 d5_0 rfl rfl rfl ?_
  refine o_instNo (pc' := 4) X0 (w_36 hw) F0_x (own_nsNo (w_55 hw) (w_37 hw) (NS.step (w_55 hw) (NS.step (w_56 hw) (own_nsRoot (w_57 hw) (w_37 hw) (by decide)) (by decide)) (by decide)) (by decide)) d5_1 rfl ?_
  intro T1 X2
  refine o_ifYes (pc' := 17) X2 d5_4 (by decide) (by decide) ((if0 _ _).trans (teq (by decide)).1) ?_
  refine o_aloadN (pc' := 18) (v := (.ref x)) X2 d5_17 rfl rfl rfl ?_
  exact o_aret X2 d5_18 rfl rfl rfl (by decide) (by decide) rfl
theorem ef_ofStr (m : MethodId) (x0 : Addr) : entryFrame m #[(.ref x0)] 1 = mkF m 0 #[.val (.ref x0)] [] := by first | rfl | (simp [entryFrame, mkF, argsToLocals, Value.category, maxLocals]; done)
def Q_ofStr (Z : State) (x : Addr) (h0 : Heap) (v : Option Value) (h : Heap) : Prop := v = some (.ref x)
set_option maxRecDepth 65536 in
set_option maxHeartbeats 40000000 in
theorem rm_ofStr (l : Launch) (Z : State) (a0 : Array Value) (hw : ∀ d ∈ tables_1, d.before a0 Z = true) (wl : List Jvm.Cond) (zc : Int32) (ca : Addr) (kca : ClassId) (cvs : List Value) (S_String_COMPACT_STRINGS : Sta Z Z.heap "java/lang/String" "COMPACT_STRINGS" "Z" (.int zc)) (hzc : ¬ (zc = (0 : Int32))) (S_Integer_IntegerCache_high : Sta Z Z.heap "java/lang/Integer$IntegerCache" "high" "I" (.int (127 : Int32))) (S_Integer_IntegerCache_cache : Sta Z Z.heap "java/lang/Integer$IntegerCache" "cache" "[Ljava/lang/Integer;" (.ref ca)) (A_cache : Arv Z Z.heap ca kca (.object "java/lang/Integer") (256 : Int32) cvs .null) (C_cache : ∀ i, i < 256 → ∃ r, cvs.getD i .null = .ref r ∧ Exa Z Z.heap r "java/lang/Integer") (x : Addr) (h0 : Heap) (n0 : Nat) (O0 : Old Z n0 h0) (F0_x : Exa Z h0 x "java/lang/String") (NI : ∃ c t, Z.vm.findClass "java/lang/String" = some c ∧ Z.vm.findClass "[B" = some t ∧ Z.vm.assignable c t = false) :
    Met l (⟨"com/example/plain_mapper/plainmapper/BinaryKey", "of", "(Ljava/lang/Object;)Ljava/lang/Object;"⟩ : MethodName) prog_7_method_2_code 1 (some (.object "java/lang/Object")) wl ({ frames := 0, cells := 0, slots := 0, locals := 0 } : Room) Z #[(.ref x)] h0 n0 [] (Q_ofStr Z x h0) := by
  refine met_intro (own := "com/example/plain_mapper/plainmapper/BinaryKey") (nm := "of") pn_com_example_plain_mapper_plainmapper_BinaryKey rfl rfl O0 ?_
  intro p e s m below meth c T0 X0
  refine Go.cast (ef_ofStr m (x) ) ?_
  have n0le := X0.n0le
  have lt_x := F0_x.lt
  refine o_aloadN (pc' := 1) (v := (.ref x)) X0 d4_0 rfl rfl rfl ?_
  refine o_instNo (pc' := 4) X0 (w_34 hw) F0_x NI d4_1 rfl ?_
  intro T1 X2
  refine o_ifYes (pc' := 21) X2 d4_4 (by decide) (by decide) ((if0 _ _).trans (teq (by decide)).1) ?_
  refine o_aloadN (pc' := 22) (v := (.ref x)) X2 d4_21 rfl rfl rfl ?_
  exact o_aret X2 d4_22 rfl rfl rfl (by decide) (by decide) rfl
theorem ef_valStr (m : MethodId) (x0 : Addr) : entryFrame m #[(.ref x0)] 1 = mkF m 0 #[.val (.ref x0)] [] := by first | rfl | (simp [entryFrame, mkF, argsToLocals, Value.category, maxLocals]; done)
def Q_valStr (Z : State) (x : Addr) (h0 : Heap) (v : Option Value) (h : Heap) : Prop := v = some (.ref x)
set_option maxRecDepth 65536 in
set_option maxHeartbeats 40000000 in
theorem rm_valStr (l : Launch) (Z : State) (a0 : Array Value) (hw : ∀ d ∈ tables_1, d.before a0 Z = true) (wl : List Jvm.Cond) (zc : Int32) (ca : Addr) (kca : ClassId) (cvs : List Value) (S_String_COMPACT_STRINGS : Sta Z Z.heap "java/lang/String" "COMPACT_STRINGS" "Z" (.int zc)) (hzc : ¬ (zc = (0 : Int32))) (S_Integer_IntegerCache_high : Sta Z Z.heap "java/lang/Integer$IntegerCache" "high" "I" (.int (127 : Int32))) (S_Integer_IntegerCache_cache : Sta Z Z.heap "java/lang/Integer$IntegerCache" "cache" "[Ljava/lang/Integer;" (.ref ca)) (A_cache : Arv Z Z.heap ca kca (.object "java/lang/Integer") (256 : Int32) cvs .null) (C_cache : ∀ i, i < 256 → ∃ r, cvs.getD i .null = .ref r ∧ Exa Z Z.heap r "java/lang/Integer") (x : Addr) (h0 : Heap) (n0 : Nat) (O0 : Old Z n0 h0) (F0_x : Exa Z h0 x "java/lang/String") :
    Met l (⟨"com/example/plain_mapper/plainmapper/BinaryKey", "value", "(Ljava/lang/Object;)Ljava/lang/Object;"⟩ : MethodName) prog_7_method_3_code 1 (some (.object "java/lang/Object")) wl ({ frames := 0, cells := 0, slots := 0, locals := 0 } : Room) Z #[(.ref x)] h0 n0 [] (Q_valStr Z x h0) := by
  refine met_intro (own := "com/example/plain_mapper/plainmapper/BinaryKey") (nm := "value") pn_com_example_plain_mapper_plainmapper_BinaryKey rfl rfl O0 ?_
  intro p e s m below meth c T0 X0
  refine Go.cast (ef_valStr m (x) ) ?_
  have n0le := X0.n0le
  have lt_x := F0_x.lt
  refine o_aloadN (pc' := 1) (v := (.ref x)) X0 d5_0 rfl rfl rfl ?_
  refine o_instNo (pc' := 4) X0 (w_36 hw) F0_x (own_nsNo (w_58 hw) (w_37 hw) (NS.step (w_58 hw) (own_nsRoot (w_57 hw) (w_37 hw) (by decide)) (by decide)) (by decide)) d5_1 rfl ?_
  intro T1 X2
  refine o_ifYes (pc' := 17) X2 d5_4 (by decide) (by decide) ((if0 _ _).trans (teq (by decide)).1) ?_
  refine o_aloadN (pc' := 18) (v := (.ref x)) X2 d5_17 rfl rfl rfl ?_
  exact o_aret X2 d5_18 rfl rfl rfl (by decide) (by decide) rfl
theorem ef_law (m : MethodId) (x0 : Int32) (x1 : Int32) (x2 : Int32) : entryFrame m #[(.int x0), (.int x1), (.int x2)] maxLocals = mkF m 0 #[.val (.int x0), .val (.int x1), .val (.int x2), .unset, .unset, .unset, .unset, .unset, .unset, .unset, .unset, .unset, .unset] [] := by first | rfl | (simp [entryFrame, mkF, argsToLocals, Value.category, maxLocals]; done)
theorem pn_com_example_plain_mapper_plainmapper_BinaryKeyValuePinLaw : plainName "com/example/plain_mapper/plainmapper/BinaryKeyValuePinLaw" = true := by first | (simp [plainName, overriddenIn]; done) | decide +kernel
theorem pd_3 : parseMethodDescriptor "([C)V" = some ⟨[(.array .char)], none⟩ := by decide +kernel
theorem pd_4 : parseMethodDescriptor "(Ljava/lang/Object;)Ljava/lang/Object;" = some ⟨[(.object "java/lang/Object")], (some (.object "java/lang/Object"))⟩ := by decide +kernel
theorem pd_5 : parseMethodDescriptor "(I)Ljava/lang/Integer;" = some ⟨[.int], (some (.object "java/lang/Integer"))⟩ := by decide +kernel
def Q_law (Z : State) (p1 : Int32) (p2 : Int32) (p3 : Int32) (h0 : Heap) (v : Option Value) (h : Heap) : Prop := v = some (.int (1 : Int32))
set_option maxRecDepth 65536 in
set_option maxHeartbeats 40000000 in
theorem rm_law (l : Launch) (Z : State) (a0 : Array Value) (hw : ∀ d ∈ tables_1, d.before a0 Z = true) (wl : List Jvm.Cond) (zc : Int32) (ca : Addr) (kca : ClassId) (cvs : List Value) (S_String_COMPACT_STRINGS : Sta Z Z.heap "java/lang/String" "COMPACT_STRINGS" "Z" (.int zc)) (hzc : ¬ (zc = (0 : Int32))) (S_Integer_IntegerCache_high : Sta Z Z.heap "java/lang/Integer$IntegerCache" "high" "I" (.int (127 : Int32))) (S_Integer_IntegerCache_cache : Sta Z Z.heap "java/lang/Integer$IntegerCache" "cache" "[Ljava/lang/Integer;" (.ref ca)) (A_cache : Arv Z Z.heap ca kca (.object "java/lang/Integer") (256 : Int32) cvs .null) (C_cache : ∀ i, i < 256 → ∃ r, cvs.getD i .null = .ref r ∧ Exa Z Z.heap r "java/lang/Integer") (p1 : Int32) (p2 : Int32) (p3 : Int32) (h0 : Heap) (n0 : Nat) (O0 : Old Z n0 h0)  :
    Met l x code maxLocals ret wl room_1 Z #[(.int p1), (.int p2), (.int p3)] h0 n0 [] (Q_law Z p1 p2 p3 h0) := by
  refine met_intro (own := "com/example/plain_mapper/plainmapper/BinaryKeyValuePinLaw") (nm := "law") pn_com_example_plain_mapper_plainmapper_BinaryKeyValuePinLaw rfl rfl O0 ?_
  intro p e s m below meth c T0 X0
  refine Go.cast (ef_law m (p1) (p2) (p3) ) ?_
  have n0le := X0.n0le
  refine o_iloadN (pc' := 1) (v := p1) X0 at_0 rfl rfl ?_
  refine o_iconst (pc' := 2) (v := (3 : Int32)) X0 at_1 rfl (by decide) ?_
  refine o_iand (pc' := 3) (v := (p1 &&& (3 : Int32))) X0 at_2 rfl rfl ?_
  refine o_istoreN (pc' := 4) (l' := #[.val (.int p1), .val (.int p2), .val (.int p3), .val (.int (p1 &&& (3 : Int32))), .unset, .unset, .unset, .unset, .unset, .unset, .unset, .unset, .unset]) X0 at_3 rfl rfl ?_
  refine o_iconst (pc' := 5) (v := (2 : Int32)) X0 at_4 rfl (by decide) ?_
  refine o_newP (pc' := 7) (aty := .byte) (cap := 2) X0 (w_0 hw) at_5 rfl (by decide) (by decide) (by decide) (by decide) (by decide) (ad := "[B") (by decide +kernel) ?_
  intro T1 h1 b1 k1 X1 g1 l1 E1 V1 A1
  have V2 : Arv Z h1 b1 k1 .byte (2 : Int32) [(.int (0 : Int32)), (.int (0 : Int32))] (.int (0 : Int32)) := V1.pad (pad_rep [] (.int (0 : Int32)) 2)
  refine o_dup (pc' := 8) X1 at_7 rfl rfl ?_
  refine o_iconst (pc' := 9) (v := (0 : Int32)) X1 at_8 rfl (by decide) ?_
  refine o_iloadN (pc' := 10) (v := p2) X1 at_9 rfl rfl ?_
  refine o_i2b (pc' := 11) (v := (p2.toInt8.toInt32)) X1 at_10 rfl rfl ?_
  refine o_stB (pc' := 12) (i := 0) (y := (p2.toInt8.toInt32)) X1 V2 ⟨by decide, by decide⟩ (by decide) (Nat.le_of_ble_eq_true rfl) (own_narB _) at_11 rfl (by omega) (Or.inr (by omega)) ?_
  rintro T3 h3 X3 ⟨sl3, ww3, W3⟩ V3
  have z3 := W3.size
  have V4 : Arv Z h3 b1 k1 .byte (2 : Int32) [(.int (p2.toInt8.toInt32)), (.int (0 : Int32))] (.int (0 : Int32)) := V3
  refine o_dup (pc' := 13) X3 at_12 rfl rfl ?_
  refine o_iconst (pc' := 14) (v := (1 : Int32)) X3 at_13 rfl (by decide) ?_
  refine o_iloadN (pc' := 15) (v := p3) X3 at_14 rfl rfl ?_
  refine o_i2b (pc' := 16) (v := (p3.toInt8.toInt32)) X3 at_15 rfl rfl ?_
  refine o_stB (pc' := 17) (i := 1) (y := (p3.toInt8.toInt32)) X3 V4 ⟨by decide, by decide⟩ (by decide) (Nat.le_of_ble_eq_true rfl) (own_narB _) at_16 rfl (by omega) (Or.inr (by omega)) ?_
  rintro T5 h5 X5 ⟨sl5, ww5, W5⟩ V5
  have z5 := W5.size
  have V6 : Arv Z h5 b1 k1 .byte (2 : Int32) [(.int (p2.toInt8.toInt32)), (.int (p3.toInt8.toInt32))] (.int (0 : Int32)) := V5
  refine o_astore (pc' := 19) (l' := #[.val (.int p1), .val (.int p2), .val (.int p3), .val (.int (p1 &&& (3 : Int32))), .val (.ref b1), .unset, .unset, .unset, .unset, .unset, .unset, .unset, .unset]) X5 at_17 rfl rfl rfl ?_
  refine o_iconst (pc' := 20) (v := (2 : Int32)) X5 at_19 rfl (by decide) ?_
  refine o_newP (pc' := 22) (aty := .byte) (cap := 2) X5 (w_0 hw) at_20 rfl (by decide) (by decide) (by decide) (by decide) (by decide) (ad := "[B") (by decide +kernel) ?_
  intro T7 h7 b7 k7 X7 g7 l7 E7 V7 A7
  have V8 : Arv Z h7 b7 k7 .byte (2 : Int32) [(.int (0 : Int32)), (.int (0 : Int32))] (.int (0 : Int32)) := V7.pad (pad_rep [] (.int (0 : Int32)) 2)
  refine o_dup (pc' := 23) X7 at_22 rfl rfl ?_
  refine o_iconst (pc' := 24) (v := (0 : Int32)) X7 at_23 rfl (by decide) ?_
  refine o_iloadN (pc' := 25) (v := p2) X7 at_24 rfl rfl ?_
  refine o_i2b (pc' := 26) (v := (p2.toInt8.toInt32)) X7 at_25 rfl rfl ?_
  refine o_stB (pc' := 27) (i := 0) (y := (p2.toInt8.toInt32)) X7 V8 ⟨by decide, by decide⟩ (by decide) (Nat.le_of_ble_eq_true rfl) (own_narB _) at_26 rfl (by omega) (Or.inr (by omega)) ?_
  rintro T9 h9 X9 ⟨sl9, ww9, W9⟩ V9
  have z9 := W9.size
  have V10 : Arv Z h9 b7 k7 .byte (2 : Int32) [(.int (p2.toInt8.toInt32)), (.int (0 : Int32))] (.int (0 : Int32)) := V9
  refine o_dup (pc' := 28) X9 at_27 rfl rfl ?_
  refine o_iconst (pc' := 29) (v := (1 : Int32)) X9 at_28 rfl (by decide) ?_
  refine o_iloadN (pc' := 30) (v := p3) X9 at_29 rfl rfl ?_
  refine o_i2b (pc' := 31) (v := (p3.toInt8.toInt32)) X9 at_30 rfl rfl ?_
  refine o_stB (pc' := 32) (i := 1) (y := (p3.toInt8.toInt32)) X9 V10 ⟨by decide, by decide⟩ (by decide) (Nat.le_of_ble_eq_true rfl) (own_narB _) at_31 rfl (by omega) (Or.inr (by omega)) ?_
  rintro T11 h11 X11 ⟨sl11, ww11, W11⟩ V11
  have z11 := W11.size
  have V12 : Arv Z h11 b7 k7 .byte (2 : Int32) [(.int (p2.toInt8.toInt32)), (.int (p3.toInt8.toInt32))] (.int (0 : Int32)) := V11
  refine o_astore (pc' := 34) (l' := #[.val (.int p1), .val (.int p2), .val (.int p3), .val (.int (p1 &&& (3 : Int32))), .val (.ref b1), .val (.ref b7), .unset, .unset, .unset, .unset, .unset, .unset, .unset]) X11 at_32 rfl rfl rfl ?_
  refine o_iconst (pc' := 35) (v := (1 : Int32)) X11 at_34 rfl (by decide) ?_
  refine o_newP (pc' := 37) (aty := .char) (cap := 1) X11 (w_1 hw) at_35 rfl (by decide) (by decide) (by decide) (by decide) (by decide) (ad := "[C") (by decide +kernel) ?_
  intro T13 h13 b13 k13 X13 g13 l13 E13 V13 A13
  have V14 : Arv Z h13 b13 k13 .char (1 : Int32) [(.int (0 : Int32))] (.int (0 : Int32)) := V13.pad (pad_rep [] (.int (0 : Int32)) 1)
  refine o_dup (pc' := 38) X13 at_37 rfl rfl ?_
  refine o_iconst (pc' := 39) (v := (0 : Int32)) X13 at_38 rfl (by decide) ?_
  refine o_iloadN (pc' := 40) (v := p2) X13 at_39 rfl rfl ?_
  refine o_sipush (pc' := 43) (v := (255 : Int32)) X13 at_40 rfl (by decide) ?_
  refine o_iand (pc' := 44) (v := (p2 &&& (255 : Int32))) X13 at_43 rfl rfl ?_
  obtain ⟨c15, ce16⟩ : ∃ z : Int32, (p2 &&& (255 : Int32)).toUInt32.toUInt16.toUInt32.toInt32 = z := ⟨_, rfl⟩
  have cr17 := own_c255 _ _ ce16
  refine o_i2c (pc' := 45) (v := c15) X13 at_44 rfl ce16 ?_
  refine o_stC (pc' := 46) (i := 0) (y := c15) X13 V14 ⟨by decide, by decide⟩ (by decide) (Nat.le_of_ble_eq_true rfl) (own_narC cr17) at_45 rfl (by omega) (Or.inr (by omega)) ?_
  rintro T18 h18 X18 ⟨sl18, ww18, W18⟩ V18
  have z18 := W18.size
  have V19 : Arv Z h18 b13 k13 .char (1 : Int32) [(.int c15)] (.int (0 : Int32)) := V18
  refine o_astore (pc' := 48) (l' := #[.val (.int p1), .val (.int p2), .val (.int p3), .val (.int (p1 &&& (3 : Int32))), .val (.ref b1), .val (.ref b7), .val (.ref b13), .unset, .unset, .unset, .unset, .unset, .unset]) X18 at_46 rfl rfl rfl ?_
  refine o_new (pc' := 51) X18 (w_2 hw) (w_3 hw) (w_4 hw) at_48 rfl (by decide) (by decide) ?_
  intro T20 h20 b20 X20 g20 l20 E20 A20 D20 U20
  have f21 : Fld Z h20 b20 "java/lang/String" "coder" "B" (.int (0 : Int32)) := D20 (Or.inr (w_27 hw)) (ty := .byte) (by decide)
  have f22 : Fld Z h20 b20 "java/lang/String" "value" "[B" .null := D20 (Or.inr (w_29 hw)) (ty := (.array .byte)) (by decide)
  refine o_dup (pc' := 52) X20 at_51 rfl rfl ?_
  refine o_aload (pc' := 54) (v := (.ref b13)) X20 at_52 rfl rfl rfl ?_
  have hp23 : ∀ c ∈ ([c15] : List Int32), ¬ c < 0 ∧ ¬ (255 : Int32) < c := (own_allC cr17 (fun _ q => nomatch q))
  have f24 := (V19.ext E20)
  refine o_special (pc' := 57) (argsL := [(.ref b13)]) (rest := [(.ref b20)]) (b := b20) (ws' := [b20]) X20 rfl (w_5 hw) (w_6 hw) (w_7 hw) (by decide) (lenOf pd_3 rfl) (StrChars.Road.backV (W := 1) X20.zv (hws_new hw) (kI := 4) (w_3 hw) (cs := ([c15] : List Int32)) (bs := ([c15] : List Int32).map (fun c => c.toInt8.toInt32)) (n := 1) (n0 := n0) (by omega) (by omega) A20 f22 f21 f24 (S_String_COMPACT_STRINGS.ext X20.old.2) hzc rfl rfl (by decide) (by decide) hp23 rfl (by decide) (by decide)) at_54 rfl rfl rfl (Nat.le_of_eq rfl) (by decide) (by decide) (fun _ _ _ q => ⟨q.2.1, q.2.2.1⟩) (allS ⟨by omega, (Or.inr (by omega))⟩ all0) ?_
  intro v25 T25 h25 L25 X25 Q25 K25
  have z25 := K25.1
  obtain ⟨rfl, -, -, Es26, Cs26, ts26, kb26, nt26, gt26, tx26, Vs26, As26⟩ := Q25
  have lts26 := As26.lt
  show Go p.tables e below _ (T25.setTop (mkF m 57 #[.val (.int p1), .val (.int p2), .val (.int p3), .val (.int (p1 &&& (3 : Int32))), .val (.ref b1), .val (.ref b7), .val (.ref b13), .unset, .unset, .unset, .unset, .unset, .unset] [(.ref b20)]))
  refine o_astore (pc' := 59) (l' := #[.val (.int p1), .val (.int p2), .val (.int p3), .val (.int (p1 &&& (3 : Int32))), .val (.ref b1), .val (.ref b7), .val (.ref b13), .val (.ref b20), .unset, .unset, .unset, .unset, .unset]) X25 at_57 rfl rfl rfl ?_
  refine o_iloadN (pc' := 60) (v := (p1 &&& (3 : Int32))) X25 at_59 rfl rfl ?_
  by_cases hc27 : (p1 &&& (3 : Int32)) = (0 : Int32)
  · refine o_ifNo (pc' := 63) X25 at_60 rfl ((if0 _ _).trans (teq hc27).2) ?_
    refine o_aload (pc' := 65) (v := (.ref b1)) X25 at_63 rfl rfl rfl ?_
    refine o_astore (pc' := 67) (l' := #[.val (.int p1), .val (.int p2), .val (.int p3), .val (.int (p1 &&& (3 : Int32))), .val (.ref b1), .val (.ref b7), .val (.ref b13), .val (.ref b20), .val (.ref b1), .unset, .unset, .unset, .unset]) X25 at_65 rfl rfl rfl ?_
    refine o_goto (pc' := 99) X25 at_67 (by decide) (by decide) ?_
    refine o_aload (pc' := 101) (v := (.ref b1)) X25 at_99 rfl rfl rfl ?_
    have f29 := (((((((((A1.wr W3).wr W5).ext E7).wr W9).wr W11).ext E13).wr W18).ext E20).keep K25)
    have I28 := Ins.self f29
    refine o_static (pc' := 104) (argsL := [(.ref b1)]) (rest := []) (ws' := []) X25 (w_30 hw) (w_31 hw) (w_32 hw) (w_33 hw) (by decide) (lenOf pd_4 rfl) (back_met (W := 0) (rm_ofArr l Z a0 hw [] zc ca kca cvs S_String_COMPACT_STRINGS hzc S_Integer_IntegerCache_high S_Integer_IntegerCache_cache A_cache C_cache (b1) h25 n0 X25.old I28) X25 (w_33 hw) (w_32 hw) (by decide) (by decide)) at_101 rfl rfl rfl (Nat.le_of_eq rfl) (by decide) (by decide) qq_fr all0 ?_
    rintro v30 T30 h30 L30 X30 ⟨-, -, Q30⟩ K30
    have z30 := K30.1
    obtain ⟨r_31, rfl, q32, q33, q34⟩ := Q30
    show Go p.tables e below _ (T30.setTop (mkF m 104 #[.val (.int p1), .val (.int p2), .val (.int p3), .val (.int (p1 &&& (3 : Int32))), .val (.ref b1), .val (.ref b7), .val (.ref b13), .val (.ref b20), .val (.ref b1), .unset, .unset, .unset, .unset] [(.ref r_31)]))
    refine o_astore (pc' := 106) (l' := #[.val (.int p1), .val (.int p2), .val (.int p3), .val (.int (p1 &&& (3 : Int32))), .val (.ref b1), .val (.ref b7), .val (.ref b13), .val (.ref b20), .val (.ref b1), .val (.ref r_31), .unset, .unset, .unset]) X30 at_104 rfl rfl rfl ?_
    refine o_aload (pc' := 108) (v := (.ref r_31)) X30 at_106 rfl rfl rfl ?_
    refine o_static (pc' := 111) (argsL := [(.ref r_31)]) (rest := []) (ws' := []) X30 (w_44 hw) (w_45 hw) (w_32 hw) (w_46 hw) (by decide) (lenOf pd_4 rfl) (back_met (W := 0) (rm_valKey l Z a0 hw [] zc ca kca cvs S_String_COMPACT_STRINGS hzc S_Integer_IntegerCache_high S_Integer_IntegerCache_cache A_cache C_cache (r_31) (b1) h30 n0 X30.old q32 q33) X30 (w_46 hw) (w_32 hw) (by decide) (by decide)) at_108 rfl rfl rfl (Nat.le_of_eq rfl) (by decide) (by decide) qq_fr all0 ?_
    rintro v35 T35 h35 L35 X35 ⟨-, -, Q35⟩ K35
    have z35 := K35.1
    obtain rfl := Q35
    show Go p.tables e below _ (T35.setTop (mkF m 111 #[.val (.int p1), .val (.int p2), .val (.int p3), .val (.int (p1 &&& (3 : Int32))), .val (.ref b1), .val (.ref b7), .val (.ref b13), .val (.ref b20), .val (.ref b1), .val (.ref r_31), .unset, .unset, .unset] [(.ref b1)]))
    refine o_astore (pc' := 113) (l' := #[.val (.int p1), .val (.int p2), .val (.int p3), .val (.int (p1 &&& (3 : Int32))), .val (.ref b1), .val (.ref b7), .val (.ref b13), .val (.ref b20), .val (.ref b1), .val (.ref r_31), .val (.ref b1), .unset, .unset]) X35 at_111 rfl rfl rfl ?_
    refine o_aload (pc' := 115) (v := (.ref b1)) X35 at_113 rfl rfl rfl ?_
    refine o_aload (pc' := 117) (v := (.ref b1)) X35 at_115 rfl rfl rfl ?_
    refine o_acmp (pc' := 122) (same := true) X35 at_117 rfl rfl (decide_eq_true rfl) (by decide) (by decide) ?_
    refine o_aload (pc' := 124) (v := (.ref b7)) X35 at_122 rfl rfl rfl ?_
    have f37 := ((((((((A7.wr W9).wr W11).ext E13).wr W18).ext E20).keep K25).keep K30).keep K35)
    have I36 := Ins.self f37
    refine o_static (pc' := 127) (argsL := [(.ref b7)]) (rest := []) (ws' := []) X35 (w_30 hw) (w_31 hw) (w_32 hw) (w_33 hw) (by decide) (lenOf pd_4 rfl) (back_met (W := 0) (rm_ofArr l Z a0 hw [] zc ca kca cvs S_String_COMPACT_STRINGS hzc S_Integer_IntegerCache_high S_Integer_IntegerCache_cache A_cache C_cache (b7) h35 n0 X35.old I36) X35 (w_33 hw) (w_32 hw) (by decide) (by decide)) at_124 rfl rfl rfl (Nat.le_of_eq rfl) (by decide) (by decide) qq_fr all0 ?_
    rintro v38 T38 h38 L38 X38 ⟨-, -, Q38⟩ K38
    have z38 := K38.1
    obtain ⟨r_39, rfl, q40, q41, q42⟩ := Q38
    show Go p.tables e below _ (T38.setTop (mkF m 127 #[.val (.int p1), .val (.int p2), .val (.int p3), .val (.int (p1 &&& (3 : Int32))), .val (.ref b1), .val (.ref b7), .val (.ref b13), .val (.ref b20), .val (.ref b1), .val (.ref r_31), .val (.ref b1), .unset, .unset] [(.ref r_39)]))
    refine o_astore (pc' := 129) (l' := #[.val (.int p1), .val (.int p2), .val (.int p3), .val (.int (p1 &&& (3 : Int32))), .val (.ref b1), .val (.ref b7), .val (.ref b13), .val (.ref b20), .val (.ref b1), .val (.ref r_31), .val (.ref b1), .val (.ref r_39), .unset]) X38 at_127 rfl rfl rfl ?_
    refine o_aload (pc' := 131) (v := (.ref r_39)) X38 at_129 rfl rfl rfl ?_
    refine o_static (pc' := 134) (argsL := [(.ref r_39)]) (rest := []) (ws' := []) X38 (w_44 hw) (w_45 hw) (w_32 hw) (w_46 hw) (by decide) (lenOf pd_4 rfl) (back_met (W := 0) (rm_valKey l Z a0 hw [] zc ca kca cvs S_String_COMPACT_STRINGS hzc S_Integer_IntegerCache_high S_Integer_IntegerCache_cache A_cache C_cache (r_39) (b7) h38 n0 X38.old q40 q41) X38 (w_46 hw) (w_32 hw) (by decide) (by decide)) at_131 rfl rfl rfl (Nat.le_of_eq rfl) (by decide) (by decide) qq_fr all0 ?_
    rintro v43 T43 h43 L43 X43 ⟨-, -, Q43⟩ K43
    have z43 := K43.1
    obtain rfl := Q43
    show Go p.tables e below _ (T43.setTop (mkF m 134 #[.val (.int p1), .val (.int p2), .val (.int p3), .val (.int (p1 &&& (3 : Int32))), .val (.ref b1), .val (.ref b7), .val (.ref b13), .val (.ref b20), .val (.ref b1), .val (.ref r_31), .val (.ref b1), .val (.ref r_39), .unset] [(.ref b7)]))
    refine o_astore (pc' := 136) (l' := #[.val (.int p1), .val (.int p2), .val (.int p3), .val (.int (p1 &&& (3 : Int32))), .val (.ref b1), .val (.ref b7), .val (.ref b13), .val (.ref b20), .val (.ref b1), .val (.ref r_31), .val (.ref b1), .val (.ref r_39), .val (.ref b7)]) X43 at_134 rfl rfl rfl ?_
    refine o_aload (pc' := 138) (v := (.ref b7)) X43 at_136 rfl rfl rfl ?_
    refine o_aload (pc' := 140) (v := (.ref b7)) X43 at_138 rfl rfl rfl ?_
    refine o_acmp (pc' := 145) (same := true) X43 at_140 rfl rfl (decide_eq_true rfl) (by decide) (by decide) ?_
    refine o_iloadN (pc' := 146) (v := (p1 &&& (3 : Int32))) X43 at_145 rfl rfl ?_
    refine o_ifYes (pc' := 161) X43 at_146 (by decide) (by decide) ((if0 _ _).trans (teq hc27).1) ?_
    refine o_iconst (pc' := 162) (v := (1 : Int32)) X43 at_161 rfl (by decide) ?_
    exact o_nret (y := (1 : Int32)) (t := .boolean) X43 at_162 rfl (by decide) (by simp) (by decide) (by decide) rfl
  · refine o_ifYes (pc' := 70) X25 at_60 (by decide) (by decide) ((if0 _ _).trans (feq hc27).2) ?_
    refine o_iloadN (pc' := 71) (v := (p1 &&& (3 : Int32))) X25 at_70 rfl rfl ?_
    refine o_iconst (pc' := 72) (v := (1 : Int32)) X25 at_71 rfl (by decide) ?_
    by_cases hc44 : (p1 &&& (3 : Int32)) = (1 : Int32)
    · refine o_icmpNo (pc' := 75) X25 at_72 rfl (teq hc44).2 ?_
      refine o_iloadN (pc' := 76) (v := p2) X25 at_75 rfl rfl ?_
      refine o_static (pc' := 79) (argsL := [(.int p2)]) (rest := []) (ws' := []) X25 (w_48 hw) (w_49 hw) (w_50 hw) (w_51 hw) (by decide) (lenOf pd_5 rfl) (back_met (W := 0) (rm_intValueOf l Z a0 hw [] zc ca kca cvs S_String_COMPACT_STRINGS hzc S_Integer_IntegerCache_high S_Integer_IntegerCache_cache A_cache C_cache (p2) h25 n0 X25.old ) X25 (w_51 hw) (w_50 hw) (by decide) (by decide)) at_76 rfl rfl rfl (Nat.le_of_eq rfl) (by decide) (by decide) qq_fr all0 ?_
      rintro v45 T45 h45 L45 X45 ⟨-, -, Q45⟩ K45
      have z45 := K45.1
      obtain ⟨r_46, rfl, q47⟩ := Q45
      show Go p.tables e below _ (T45.setTop (mkF m 79 #[.val (.int p1), .val (.int p2), .val (.int p3), .val (.int (p1 &&& (3 : Int32))), .val (.ref b1), .val (.ref b7), .val (.ref b13), .val (.ref b20), .unset, .unset, .unset, .unset, .unset] [(.ref r_46)]))
      refine o_astore (pc' := 81) (l' := #[.val (.int p1), .val (.int p2), .val (.int p3), .val (.int (p1 &&& (3 : Int32))), .val (.ref b1), .val (.ref b7), .val (.ref b13), .val (.ref b20), .val (.ref r_46), .unset, .unset, .unset, .unset]) X45 at_79 rfl rfl rfl ?_
      refine o_goto (pc' := 99) X45 at_81 (by decide) (by decide) ?_
      refine o_aload (pc' := 101) (v := (.ref r_46)) X45 at_99 rfl rfl rfl ?_
      by_cases hI48 : Ins Z h45 r_46 "[B" true
      · refine o_static (pc' := 104) (argsL := [(.ref r_46)]) (rest := []) (ws' := []) X45 (w_30 hw) (w_31 hw) (w_32 hw) (w_33 hw) (by decide) (lenOf pd_4 rfl) (back_met (W := 0) (rm_ofArr l Z a0 hw [] zc ca kca cvs S_String_COMPACT_STRINGS hzc S_Integer_IntegerCache_high S_Integer_IntegerCache_cache A_cache C_cache (r_46) h45 n0 X45.old hI48) X45 (w_33 hw) (w_32 hw) (by decide) (by decide)) at_101 rfl rfl rfl (Nat.le_of_eq rfl) (by decide) (by decide) qq_fr all0 ?_
        rintro v49 T49 h49 L49 X49 ⟨-, -, Q49⟩ K49
        have z49 := K49.1
        obtain ⟨r_50, rfl, q51, q52, q53⟩ := Q49
        show Go p.tables e below _ (T49.setTop (mkF m 104 #[.val (.int p1), .val (.int p2), .val (.int p3), .val (.int (p1 &&& (3 : Int32))), .val (.ref b1), .val (.ref b7), .val (.ref b13), .val (.ref b20), .val (.ref r_46), .unset, .unset, .unset, .unset] [(.ref r_50)]))
        refine o_astore (pc' := 106) (l' := #[.val (.int p1), .val (.int p2), .val (.int p3), .val (.int (p1 &&& (3 : Int32))), .val (.ref b1), .val (.ref b7), .val (.ref b13), .val (.ref b20), .val (.ref r_46), .val (.ref r_50), .unset, .unset, .unset]) X49 at_104 rfl rfl rfl ?_
        refine o_aload (pc' := 108) (v := (.ref r_50)) X49 at_106 rfl rfl rfl ?_
        refine o_static (pc' := 111) (argsL := [(.ref r_50)]) (rest := []) (ws' := []) X49 (w_44 hw) (w_45 hw) (w_32 hw) (w_46 hw) (by decide) (lenOf pd_4 rfl) (back_met (W := 0) (rm_valKey l Z a0 hw [] zc ca kca cvs S_String_COMPACT_STRINGS hzc S_Integer_IntegerCache_high S_Integer_IntegerCache_cache A_cache C_cache (r_50) (r_46) h49 n0 X49.old q51 q52) X49 (w_46 hw) (w_32 hw) (by decide) (by decide)) at_108 rfl rfl rfl (Nat.le_of_eq rfl) (by decide) (by decide) qq_fr all0 ?_
        rintro v54 T54 h54 L54 X54 ⟨-, -, Q54⟩ K54
        have z54 := K54.1
        obtain rfl := Q54
        show Go p.tables e below _ (T54.setTop (mkF m 111 #[.val (.int p1), .val (.int p2), .val (.int p3), .val (.int (p1 &&& (3 : Int32))), .val (.ref b1), .val (.ref b7), .val (.ref b13), .val (.ref b20), .val (.ref r_46), .val (.ref r_50), .unset, .unset, .unset] [(.ref r_46)]))
        refine o_astore (pc' := 113) (l' := #[.val (.int p1), .val (.int p2), .val (.int p3), .val (.int (p1 &&& (3 : Int32))), .val (.ref b1), .val (.ref b7), .val (.ref b13), .val (.ref b20), .val (.ref r_46), .val (.ref r_50), .val (.ref r_46), .unset, .unset]) X54 at_111 rfl rfl rfl ?_
        refine o_aload (pc' := 115) (v := (.ref r_46)) X54 at_113 rfl rfl rfl ?_
        refine o_aload (pc' := 117) (v := (.ref r_46)) X54 at_115 rfl rfl rfl ?_
        refine o_acmp (pc' := 122) (same := true) X54 at_117 rfl rfl (decide_eq_true rfl) (by decide) (by decide) ?_
        refine o_aload (pc' := 124) (v := (.ref b7)) X54 at_122 rfl rfl rfl ?_
        have f56 := (((((((((A7.wr W9).wr W11).ext E13).wr W18).ext E20).keep K25).keep K45).keep K49).keep K54)
        have I55 := Ins.self f56
        refine o_static (pc' := 127) (argsL := [(.ref b7)]) (rest := []) (ws' := []) X54 (w_30 hw) (w_31 hw) (w_32 hw) (w_33 hw) (by decide) (lenOf pd_4 rfl) (back_met (W := 0) (rm_ofArr l Z a0 hw [] zc ca kca cvs S_String_COMPACT_STRINGS hzc S_Integer_IntegerCache_high S_Integer_IntegerCache_cache A_cache C_cache (b7) h54 n0 X54.old I55) X54 (w_33 hw) (w_32 hw) (by decide) (by decide)) at_124 rfl rfl rfl (Nat.le_of_eq rfl) (by decide) (by decide) qq_fr all0 ?_
        rintro v57 T57 h57 L57 X57 ⟨-, -, Q57⟩ K57
        have z57 := K57.1
        obtain ⟨r_58, rfl, q59, q60, q61⟩ := Q57
        show Go p.tables e below _ (T57.setTop (mkF m 127 #[.val (.int p1), .val (.int p2), .val (.int p3), .val (.int (p1 &&& (3 : Int32))), .val (.ref b1), .val (.ref b7), .val (.ref b13), .val (.ref b20), .val (.ref r_46), .val (.ref r_50), .val (.ref r_46), .unset, .unset] [(.ref r_58)]))
        refine o_astore (pc' := 129) (l' := #[.val (.int p1), .val (.int p2), .val (.int p3), .val (.int (p1 &&& (3 : Int32))), .val (.ref b1), .val (.ref b7), .val (.ref b13), .val (.ref b20), .val (.ref r_46), .val (.ref r_50), .val (.ref r_46), .val (.ref r_58), .unset]) X57 at_127 rfl rfl rfl ?_
        refine o_aload (pc' := 131) (v := (.ref r_58)) X57 at_129 rfl rfl rfl ?_
        refine o_static (pc' := 134) (argsL := [(.ref r_58)]) (rest := []) (ws' := []) X57 (w_44 hw) (w_45 hw) (w_32 hw) (w_46 hw) (by decide) (lenOf pd_4 rfl) (back_met (W := 0) (rm_valKey l Z a0 hw [] zc ca kca cvs S_String_COMPACT_STRINGS hzc S_Integer_IntegerCache_high S_Integer_IntegerCache_cache A_cache C_cache (r_58) (b7) h57 n0 X57.old q59 q60) X57 (w_46 hw) (w_32 hw) (by decide) (by decide)) at_131 rfl rfl rfl (Nat.le_of_eq rfl) (by decide) (by decide) qq_fr all0 ?_
        rintro v62 T62 h62 L62 X62 ⟨-, -, Q62⟩ K62
        have z62 := K62.1
        obtain rfl := Q62
        show Go p.tables e below _ (T62.setTop (mkF m 134 #[.val (.int p1), .val (.int p2), .val (.int p3), .val (.int (p1 &&& (3 : Int32))), .val (.ref b1), .val (.ref b7), .val (.ref b13), .val (.ref b20), .val (.ref r_46), .val (.ref r_50), .val (.ref r_46), .val (.ref r_58), .unset] [(.ref b7)]))
        refine o_astore (pc' := 136) (l' := #[.val (.int p1), .val (.int p2), .val (.int p3), .val (.int (p1 &&& (3 : Int32))), .val (.ref b1), .val (.ref b7), .val (.ref b13), .val (.ref b20), .val (.ref r_46), .val (.ref r_50), .val (.ref r_46), .val (.ref r_58), .val (.ref b7)]) X62 at_134 rfl rfl rfl ?_
        refine o_aload (pc' := 138) (v := (.ref b7)) X62 at_136 rfl rfl rfl ?_
        refine o_aload (pc' := 140) (v := (.ref b7)) X62 at_138 rfl rfl rfl ?_
        refine o_acmp (pc' := 145) (same := true) X62 at_140 rfl rfl (decide_eq_true rfl) (by decide) (by decide) ?_
        refine o_iloadN (pc' := 146) (v := (p1 &&& (3 : Int32))) X62 at_145 rfl rfl ?_
        refine o_ifNo (pc' := 149) X62 at_146 rfl ((if0 _ _).trans (feq hc27).1) ?_
        refine o_aload (pc' := 151) (v := (.ref r_46)) X62 at_149 rfl rfl rfl ?_
        have f63 := ((((q47.keep K49).keep K54).keep K57).keep K62)
        refine o_static (pc' := 154) (argsL := [(.ref r_46)]) (rest := []) (ws' := []) X62 (w_44 hw) (w_45 hw) (w_32 hw) (w_46 hw) (by decide) (lenOf pd_4 rfl) (back_met (W := 0) (rm_valInt l Z a0 hw [] zc ca kca cvs S_String_COMPACT_STRINGS hzc S_Integer_IntegerCache_high S_Integer_IntegerCache_cache A_cache C_cache (r_46) h62 n0 X62.old f63) X62 (w_46 hw) (w_32 hw) (by decide) (by decide)) at_151 rfl rfl rfl (Nat.le_of_eq rfl) (by decide) (by decide) qq_fr all0 ?_
        rintro v64 T64 h64 L64 X64 ⟨-, -, Q64⟩ K64
        have z64 := K64.1
        obtain rfl := Q64
        show Go p.tables e below _ (T64.setTop (mkF m 154 #[.val (.int p1), .val (.int p2), .val (.int p3), .val (.int (p1 &&& (3 : Int32))), .val (.ref b1), .val (.ref b7), .val (.ref b13), .val (.ref b20), .val (.ref r_46), .val (.ref r_50), .val (.ref r_46), .val (.ref r_58), .val (.ref b7)] [(.ref r_46)]))
        refine o_aload (pc' := 156) (v := (.ref r_46)) X64 at_154 rfl rfl rfl ?_
        refine o_acmp (pc' := 161) (same := true) X64 at_156 rfl rfl (decide_eq_true rfl) (by decide) (by decide) ?_
        refine o_iconst (pc' := 162) (v := (1 : Int32)) X64 at_161 rfl (by decide) ?_
        exact o_nret (y := (1 : Int32)) (t := .boolean) X64 at_162 rfl (by decide) (by simp) (by decide) (by decide) rfl
      · refine o_static (pc' := 104) (argsL := [(.ref r_46)]) (rest := []) (ws' := []) X45 (w_30 hw) (w_31 hw) (w_32 hw) (w_33 hw) (by decide) (lenOf pd_4 rfl) (back_met (W := 0) (rm_ofInt l Z a0 hw [] zc ca kca cvs S_String_COMPACT_STRINGS hzc S_Integer_IntegerCache_high S_Integer_IntegerCache_cache A_cache C_cache (r_46) h45 n0 X45.old q47 (own_notIns q47 (w_0 hw) (by decide +kernel) hI48)) X45 (w_33 hw) (w_32 hw) (by decide) (by decide)) at_101 rfl rfl rfl (Nat.le_of_eq rfl) (by decide) (by decide) qq_fr all0 ?_
        rintro v65 T65 h65 L65 X65 ⟨-, -, Q65⟩ K65
        have z65 := K65.1
        obtain rfl := Q65
        show Go p.tables e below _ (T65.setTop (mkF m 104 #[.val (.int p1), .val (.int p2), .val (.int p3), .val (.int (p1 &&& (3 : Int32))), .val (.ref b1), .val (.ref b7), .val (.ref b13), .val (.ref b20), .val (.ref r_46), .unset, .unset, .unset, .unset] [(.ref r_46)]))
        refine o_astore (pc' := 106) (l' := #[.val (.int p1), .val (.int p2), .val (.int p3), .val (.int (p1 &&& (3 : Int32))), .val (.ref b1), .val (.ref b7), .val (.ref b13), .val (.ref b20), .val (.ref r_46), .val (.ref r_46), .unset, .unset, .unset]) X65 at_104 rfl rfl rfl ?_
        refine o_aload (pc' := 108) (v := (.ref r_46)) X65 at_106 rfl rfl rfl ?_
        have f66 := (q47.keep K65)
        refine o_static (pc' := 111) (argsL := [(.ref r_46)]) (rest := []) (ws' := []) X65 (w_44 hw) (w_45 hw) (w_32 hw) (w_46 hw) (by decide) (lenOf pd_4 rfl) (back_met (W := 0) (rm_valInt l Z a0 hw [] zc ca kca cvs S_String_COMPACT_STRINGS hzc S_Integer_IntegerCache_high S_Integer_IntegerCache_cache A_cache C_cache (r_46) h65 n0 X65.old f66) X65 (w_46 hw) (w_32 hw) (by decide) (by decide)) at_108 rfl rfl rfl (Nat.le_of_eq rfl) (by decide) (by decide) qq_fr all0 ?_
        rintro v67 T67 h67 L67 X67 ⟨-, -, Q67⟩ K67
        have z67 := K67.1
        obtain rfl := Q67
        show Go p.tables e below _ (T67.setTop (mkF m 111 #[.val (.int p1), .val (.int p2), .val (.int p3), .val (.int (p1 &&& (3 : Int32))), .val (.ref b1), .val (.ref b7), .val (.ref b13), .val (.ref b20), .val (.ref r_46), .val (.ref r_46), .unset, .unset, .unset] [(.ref r_46)]))
        refine o_astore (pc' := 113) (l' := #[.val (.int p1), .val (.int p2), .val (.int p3), .val (.int (p1 &&& (3 : Int32))), .val (.ref b1), .val (.ref b7), .val (.ref b13), .val (.ref b20), .val (.ref r_46), .val (.ref r_46), .val (.ref r_46), .unset, .unset]) X67 at_111 rfl rfl rfl ?_
        refine o_aload (pc' := 115) (v := (.ref r_46)) X67 at_113 rfl rfl rfl ?_
        refine o_aload (pc' := 117) (v := (.ref r_46)) X67 at_115 rfl rfl rfl ?_
        refine o_acmp (pc' := 122) (same := true) X67 at_117 rfl rfl (decide_eq_true rfl) (by decide) (by decide) ?_
        refine o_aload (pc' := 124) (v := (.ref b7)) X67 at_122 rfl rfl rfl ?_
        have f69 := (((((((((A7.wr W9).wr W11).ext E13).wr W18).ext E20).keep K25).keep K45).keep K65).keep K67)
        have I68 := Ins.self f69
        refine o_static (pc' := 127) (argsL := [(.ref b7)]) (rest := []) (ws' := []) X67 (w_30 hw) (w_31 hw) (w_32 hw) (w_33 hw) (by decide) (lenOf pd_4 rfl) (back_met (W := 0) (rm_ofArr l Z a0 hw [] zc ca kca cvs S_String_COMPACT_STRINGS hzc S_Integer_IntegerCache_high S_Integer_IntegerCache_cache A_cache C_cache (b7) h67 n0 X67.old I68) X67 (w_33 hw) (w_32 hw) (by decide) (by decide)) at_124 rfl rfl rfl (Nat.le_of_eq rfl) (by decide) (by decide) qq_fr all0 ?_
        rintro v70 T70 h70 L70 X70 ⟨-, -, Q70⟩ K70
        have z70 := K70.1
        obtain ⟨r_71, rfl, q72, q73, q74⟩ := Q70
        show Go p.tables e below _ (T70.setTop (mkF m 127 #[.val (.int p1), .val (.int p2), .val (.int p3), .val (.int (p1 &&& (3 : Int32))), .val (.ref b1), .val (.ref b7), .val (.ref b13), .val (.ref b20), .val (.ref r_46), .val (.ref r_46), .val (.ref r_46), .unset, .unset] [(.ref r_71)]))
        refine o_astore (pc' := 129) (l' := #[.val (.int p1), .val (.int p2), .val (.int p3), .val (.int (p1 &&& (3 : Int32))), .val (.ref b1), .val (.ref b7), .val (.ref b13), .val (.ref b20), .val (.ref r_46), .val (.ref r_46), .val (.ref r_46), .val (.ref r_71), .unset]) X70 at_127 rfl rfl rfl ?_
        refine o_aload (pc' := 131) (v := (.ref r_71)) X70 at_129 rfl rfl rfl ?_
        refine o_static (pc' := 134) (argsL := [(.ref r_71)]) (rest := []) (ws' := []) X70 (w_44 hw) (w_45 hw) (w_32 hw) (w_46 hw) (by decide) (lenOf pd_4 rfl) (back_met (W := 0) (rm_valKey l Z a0 hw [] zc ca kca cvs S_String_COMPACT_STRINGS hzc S_Integer_IntegerCache_high S_Integer_IntegerCache_cache A_cache C_cache (r_71) (b7) h70 n0 X70.old q72 q73) X70 (w_46 hw) (w_32 hw) (by decide) (by decide)) at_131 rfl rfl rfl (Nat.le_of_eq rfl) (by decide) (by decide) qq_fr all0 ?_
        rintro v75 T75 h75 L75 X75 ⟨-, -, Q75⟩ K75
        have z75 := K75.1
        obtain rfl := Q75
        show Go p.tables e below _ (T75.setTop (mkF m 134 #[.val (.int p1), .val (.int p2), .val (.int p3), .val (.int (p1 &&& (3 : Int32))), .val (.ref b1), .val (.ref b7), .val (.ref b13), .val (.ref b20), .val (.ref r_46), .val (.ref r_46), .val (.ref r_46), .val (.ref r_71), .unset] [(.ref b7)]))
        refine o_astore (pc' := 136) (l' := #[.val (.int p1), .val (.int p2), .val (.int p3), .val (.int (p1 &&& (3 : Int32))), .val (.ref b1), .val (.ref b7), .val (.ref b13), .val (.ref b20), .val (.ref r_46), .val (.ref r_46), .val (.ref r_46), .val (.ref r_71), .val (.ref b7)]) X75 at_134 rfl rfl rfl ?_
        refine o_aload (pc' := 138) (v := (.ref b7)) X75 at_136 rfl rfl rfl ?_
        refine o_aload (pc' := 140) (v := (.ref b7)) X75 at_138 rfl rfl rfl ?_
        refine o_acmp (pc' := 145) (same := true) X75 at_140 rfl rfl (decide_eq_true rfl) (by decide) (by decide) ?_
        refine o_iloadN (pc' := 146) (v := (p1 &&& (3 : Int32))) X75 at_145 rfl rfl ?_
        refine o_ifNo (pc' := 149) X75 at_146 rfl ((if0 _ _).trans (feq hc27).1) ?_
        refine o_aload (pc' := 151) (v := (.ref r_46)) X75 at_149 rfl rfl rfl ?_
        have f76 := (((f66.keep K67).keep K70).keep K75)
        refine o_static (pc' := 154) (argsL := [(.ref r_46)]) (rest := []) (ws' := []) X75 (w_44 hw) (w_45 hw) (w_32 hw) (w_46 hw) (by decide) (lenOf pd_4 rfl) (back_met (W := 0) (rm_valInt l Z a0 hw [] zc ca kca cvs S_String_COMPACT_STRINGS hzc S_Integer_IntegerCache_high S_Integer_IntegerCache_cache A_cache C_cache (r_46) h75 n0 X75.old f76) X75 (w_46 hw) (w_32 hw) (by decide) (by decide)) at_151 rfl rfl rfl (Nat.le_of_eq rfl) (by decide) (by decide) qq_fr all0 ?_
        rintro v77 T77 h77 L77 X77 ⟨-, -, Q77⟩ K77
        have z77 := K77.1
        obtain rfl := Q77
        show Go p.tables e below _ (T77.setTop (mkF m 154 #[.val (.int p1), .val (.int p2), .val (.int p3), .val (.int (p1 &&& (3 : Int32))), .val (.ref b1), .val (.ref b7), .val (.ref b13), .val (.ref b20), .val (.ref r_46), .val (.ref r_46), .val (.ref r_46), .val (.ref r_71), .val (.ref b7)] [(.ref r_46)]))
        refine o_aload (pc' := 156) (v := (.ref r_46)) X77 at_154 rfl rfl rfl ?_
        refine o_acmp (pc' := 161) (same := true) X77 at_156 rfl rfl (decide_eq_true rfl) (by decide) (by decide) ?_
        refine o_iconst (pc' := 162) (v := (1 : Int32)) X77 at_161 rfl (by decide) ?_
        exact o_nret (y := (1 : Int32)) (t := .boolean) X77 at_162 rfl (by decide) (by simp) (by decide) (by decide) rfl
    · refine o_icmpYes (pc' := 84) X25 at_72 (by decide) (by decide) (feq hc44).2 ?_
      refine o_iloadN (pc' := 85) (v := (p1 &&& (3 : Int32))) X25 at_84 rfl rfl ?_
      refine o_iconst (pc' := 86) (v := (2 : Int32)) X25 at_85 rfl (by decide) ?_
      by_cases hc78 : (p1 &&& (3 : Int32)) = (2 : Int32)
      · refine o_icmpNo (pc' := 89) X25 at_86 rfl (teq hc78).2 ?_
        refine o_aload (pc' := 91) (v := (.ref b20)) X25 at_89 rfl rfl rfl ?_
        refine o_astore (pc' := 93) (l' := #[.val (.int p1), .val (.int p2), .val (.int p3), .val (.int (p1 &&& (3 : Int32))), .val (.ref b1), .val (.ref b7), .val (.ref b13), .val (.ref b20), .val (.ref b20), .unset, .unset, .unset, .unset]) X25 at_91 rfl rfl rfl ?_
        refine o_goto (pc' := 99) X25 at_93 (by decide) (by decide) ?_
        refine o_aload (pc' := 101) (v := (.ref b20)) X25 at_99 rfl rfl rfl ?_
        by_cases hI79 : Ins Z h25 b20 "[B" true
        · refine o_static (pc' := 104) (argsL := [(.ref b20)]) (rest := []) (ws' := []) X25 (w_30 hw) (w_31 hw) (w_32 hw) (w_33 hw) (by decide) (lenOf pd_4 rfl) (back_met (W := 0) (rm_ofArr l Z a0 hw [] zc ca kca cvs S_String_COMPACT_STRINGS hzc S_Integer_IntegerCache_high S_Integer_IntegerCache_cache A_cache C_cache (b20) h25 n0 X25.old hI79) X25 (w_33 hw) (w_32 hw) (by decide) (by decide)) at_101 rfl rfl rfl (Nat.le_of_eq rfl) (by decide) (by decide) qq_fr all0 ?_
          rintro v80 T80 h80 L80 X80 ⟨-, -, Q80⟩ K80
          have z80 := K80.1
          obtain ⟨r_81, rfl, q82, q83, q84⟩ := Q80
          show Go p.tables e below _ (T80.setTop (mkF m 104 #[.val (.int p1), .val (.int p2), .val (.int p3), .val (.int (p1 &&& (3 : Int32))), .val (.ref b1), .val (.ref b7), .val (.ref b13), .val (.ref b20), .val (.ref b20), .unset, .unset, .unset, .unset] [(.ref r_81)]))
          refine o_astore (pc' := 106) (l' := #[.val (.int p1), .val (.int p2), .val (.int p3), .val (.int (p1 &&& (3 : Int32))), .val (.ref b1), .val (.ref b7), .val (.ref b13), .val (.ref b20), .val (.ref b20), .val (.ref r_81), .unset, .unset, .unset]) X80 at_104 rfl rfl rfl ?_
          refine o_aload (pc' := 108) (v := (.ref r_81)) X80 at_106 rfl rfl rfl ?_
          refine o_static (pc' := 111) (argsL := [(.ref r_81)]) (rest := []) (ws' := []) X80 (w_44 hw) (w_45 hw) (w_32 hw) (w_46 hw) (by decide) (lenOf pd_4 rfl) (back_met (W := 0) (rm_valKey l Z a0 hw [] zc ca kca cvs S_String_COMPACT_STRINGS hzc S_Integer_IntegerCache_high S_Integer_IntegerCache_cache A_cache C_cache (r_81) (b20) h80 n0 X80.old q82 q83) X80 (w_46 hw) (w_32 hw) (by decide) (by decide)) at_108 rfl rfl rfl (Nat.le_of_eq rfl) (by decide) (by decide) qq_fr all0 ?_
          rintro v85 T85 h85 L85 X85 ⟨-, -, Q85⟩ K85
          have z85 := K85.1
          obtain rfl := Q85
          show Go p.tables e below _ (T85.setTop (mkF m 111 #[.val (.int p1), .val (.int p2), .val (.int p3), .val (.int (p1 &&& (3 : Int32))), .val (.ref b1), .val (.ref b7), .val (.ref b13), .val (.ref b20), .val (.ref b20), .val (.ref r_81), .unset, .unset, .unset] [(.ref b20)]))
          refine o_astore (pc' := 113) (l' := #[.val (.int p1), .val (.int p2), .val (.int p3), .val (.int (p1 &&& (3 : Int32))), .val (.ref b1), .val (.ref b7), .val (.ref b13), .val (.ref b20), .val (.ref b20), .val (.ref r_81), .val (.ref b20), .unset, .unset]) X85 at_111 rfl rfl rfl ?_
          refine o_aload (pc' := 115) (v := (.ref b20)) X85 at_113 rfl rfl rfl ?_
          refine o_aload (pc' := 117) (v := (.ref b20)) X85 at_115 rfl rfl rfl ?_
          refine o_acmp (pc' := 122) (same := true) X85 at_117 rfl rfl (decide_eq_true rfl) (by decide) (by decide) ?_
          refine o_aload (pc' := 124) (v := (.ref b7)) X85 at_122 rfl rfl rfl ?_
          have f87 := ((((((((A7.wr W9).wr W11).ext E13).wr W18).ext E20).keep K25).keep K80).keep K85)
          have I86 := Ins.self f87
          refine o_static (pc' := 127) (argsL := [(.ref b7)]) (rest := []) (ws' := []) X85 (w_30 hw) (w_31 hw) (w_32 hw) (w_33 hw) (by decide) (lenOf pd_4 rfl) (back_met (W := 0) (rm_ofArr l Z a0 hw [] zc ca kca cvs S_String_COMPACT_STRINGS hzc S_Integer_IntegerCache_high S_Integer_IntegerCache_cache A_cache C_cache (b7) h85 n0 X85.old I86) X85 (w_33 hw) (w_32 hw) (by decide) (by decide)) at_124 rfl rfl rfl (Nat.le_of_eq rfl) (by decide) (by decide) qq_fr all0 ?_
          rintro v88 T88 h88 L88 X88 ⟨-, -, Q88⟩ K88
          have z88 := K88.1
          obtain ⟨r_89, rfl, q90, q91, q92⟩ := Q88
          show Go p.tables e below _ (T88.setTop (mkF m 127 #[.val (.int p1), .val (.int p2), .val (.int p3), .val (.int (p1 &&& (3 : Int32))), .val (.ref b1), .val (.ref b7), .val (.ref b13), .val (.ref b20), .val (.ref b20), .val (.ref r_81), .val (.ref b20), .unset, .unset] [(.ref r_89)]))
          refine o_astore (pc' := 129) (l' := #[.val (.int p1), .val (.int p2), .val (.int p3), .val (.int (p1 &&& (3 : Int32))), .val (.ref b1), .val (.ref b7), .val (.ref b13), .val (.ref b20), .val (.ref b20), .val (.ref r_81), .val (.ref b20), .val (.ref r_89), .unset]) X88 at_127 rfl rfl rfl ?_
          refine o_aload (pc' := 131) (v := (.ref r_89)) X88 at_129 rfl rfl rfl ?_
          refine o_static (pc' := 134) (argsL := [(.ref r_89)]) (rest := []) (ws' := []) X88 (w_44 hw) (w_45 hw) (w_32 hw) (w_46 hw) (by decide) (lenOf pd_4 rfl) (back_met (W := 0) (rm_valKey l Z a0 hw [] zc ca kca cvs S_String_COMPACT_STRINGS hzc S_Integer_IntegerCache_high S_Integer_IntegerCache_cache A_cache C_cache (r_89) (b7) h88 n0 X88.old q90 q91) X88 (w_46 hw) (w_32 hw) (by decide) (by decide)) at_131 rfl rfl rfl (Nat.le_of_eq rfl) (by decide) (by decide) qq_fr all0 ?_
          rintro v93 T93 h93 L93 X93 ⟨-, -, Q93⟩ K93
          have z93 := K93.1
          obtain rfl := Q93
          show Go p.tables e below _ (T93.setTop (mkF m 134 #[.val (.int p1), .val (.int p2), .val (.int p3), .val (.int (p1 &&& (3 : Int32))), .val (.ref b1), .val (.ref b7), .val (.ref b13), .val (.ref b20), .val (.ref b20), .val (.ref r_81), .val (.ref b20), .val (.ref r_89), .unset] [(.ref b7)]))
          refine o_astore (pc' := 136) (l' := #[.val (.int p1), .val (.int p2), .val (.int p3), .val (.int (p1 &&& (3 : Int32))), .val (.ref b1), .val (.ref b7), .val (.ref b13), .val (.ref b20), .val (.ref b20), .val (.ref r_81), .val (.ref b20), .val (.ref r_89), .val (.ref b7)]) X93 at_134 rfl rfl rfl ?_
          refine o_aload (pc' := 138) (v := (.ref b7)) X93 at_136 rfl rfl rfl ?_
          refine o_aload (pc' := 140) (v := (.ref b7)) X93 at_138 rfl rfl rfl ?_
          refine o_acmp (pc' := 145) (same := true) X93 at_140 rfl rfl (decide_eq_true rfl) (by decide) (by decide) ?_
          refine o_iloadN (pc' := 146) (v := (p1 &&& (3 : Int32))) X93 at_145 rfl rfl ?_
          refine o_ifNo (pc' := 149) X93 at_146 rfl ((if0 _ _).trans (feq hc27).1) ?_
          refine o_aload (pc' := 151) (v := (.ref b20)) X93 at_149 rfl rfl rfl ?_
          have f94 := ((((Es26.keep K80).keep K85).keep K88).keep K93)
          refine o_static (pc' := 154) (argsL := [(.ref b20)]) (rest := []) (ws' := []) X93 (w_44 hw) (w_45 hw) (w_32 hw) (w_46 hw) (by decide) (lenOf pd_4 rfl) (back_met (W := 0) (rm_valStr l Z a0 hw [] zc ca kca cvs S_String_COMPACT_STRINGS hzc S_Integer_IntegerCache_high S_Integer_IntegerCache_cache A_cache C_cache (b20) h93 n0 X93.old f94) X93 (w_46 hw) (w_32 hw) (by decide) (by decide)) at_151 rfl rfl rfl (Nat.le_of_eq rfl) (by decide) (by decide) qq_fr all0 ?_
          rintro v95 T95 h95 L95 X95 ⟨-, -, Q95⟩ K95
          have z95 := K95.1
          obtain rfl := Q95
          show Go p.tables e below _ (T95.setTop (mkF m 154 #[.val (.int p1), .val (.int p2), .val (.int p3), .val (.int (p1 &&& (3 : Int32))), .val (.ref b1), .val (.ref b7), .val (.ref b13), .val (.ref b20), .val (.ref b20), .val (.ref r_81), .val (.ref b20), .val (.ref r_89), .val (.ref b7)] [(.ref b20)]))
          refine o_aload (pc' := 156) (v := (.ref b20)) X95 at_154 rfl rfl rfl ?_
          refine o_acmp (pc' := 161) (same := true) X95 at_156 rfl rfl (decide_eq_true rfl) (by decide) (by decide) ?_
          refine o_iconst (pc' := 162) (v := (1 : Int32)) X95 at_161 rfl (by decide) ?_
          exact o_nret (y := (1 : Int32)) (t := .boolean) X95 at_162 rfl (by decide) (by simp) (by decide) (by decide) rfl
        · refine o_static (pc' := 104) (argsL := [(.ref b20)]) (rest := []) (ws' := []) X25 (w_30 hw) (w_31 hw) (w_32 hw) (w_33 hw) (by decide) (lenOf pd_4 rfl) (back_met (W := 0) (rm_ofStr l Z a0 hw [] zc ca kca cvs S_String_COMPACT_STRINGS hzc S_Integer_IntegerCache_high S_Integer_IntegerCache_cache A_cache C_cache (b20) h25 n0 X25.old Es26 (own_notIns Es26 (w_0 hw) (by decide +kernel) hI79)) X25 (w_33 hw) (w_32 hw) (by decide) (by decide)) at_101 rfl rfl rfl (Nat.le_of_eq rfl) (by decide) (by decide) qq_fr all0 ?_
          rintro v96 T96 h96 L96 X96 ⟨-, -, Q96⟩ K96
          have z96 := K96.1
          obtain rfl := Q96
          show Go p.tables e below _ (T96.setTop (mkF m 104 #[.val (.int p1), .val (.int p2), .val (.int p3), .val (.int (p1 &&& (3 : Int32))), .val (.ref b1), .val (.ref b7), .val (.ref b13), .val (.ref b20), .val (.ref b20), .unset, .unset, .unset, .unset] [(.ref b20)]))
          refine o_astore (pc' := 106) (l' := #[.val (.int p1), .val (.int p2), .val (.int p3), .val (.int (p1 &&& (3 : Int32))), .val (.ref b1), .val (.ref b7), .val (.ref b13), .val (.ref b20), .val (.ref b20), .val (.ref b20), .unset, .unset, .unset]) X96 at_104 rfl rfl rfl ?_
          refine o_aload (pc' := 108) (v := (.ref b20)) X96 at_106 rfl rfl rfl ?_
          have f97 := (Es26.keep K96)
          refine o_static (pc' := 111) (argsL := [(.ref b20)]) (rest := []) (ws' := []) X96 (w_44 hw) (w_45 hw) (w_32 hw) (w_46 hw) (by decide) (lenOf pd_4 rfl) (back_met (W := 0) (rm_valStr l Z a0 hw [] zc ca kca cvs S_String_COMPACT_STRINGS hzc S_Integer_IntegerCache_high S_Integer_IntegerCache_cache A_cache C_cache (b20) h96 n0 X96.old f97) X96 (w_46 hw) (w_32 hw) (by decide) (by decide)) at_108 rfl rfl rfl (Nat.le_of_eq rfl) (by decide) (by decide) qq_fr all0 ?_
          rintro v98 T98 h98 L98 X98 ⟨-, -, Q98⟩ K98
          have z98 := K98.1
          obtain rfl := Q98
          show Go p.tables e below _ (T98.setTop (mkF m 111 #[.val (.int p1), .val (.int p2), .val (.int p3), .val (.int (p1 &&& (3 : Int32))), .val (.ref b1), .val (.ref b7), .val (.ref b13), .val (.ref b20), .val (.ref b20), .val (.ref b20), .unset, .unset, .unset] [(.ref b20)]))
          refine o_astore (pc' := 113) (l' := #[.val (.int p1), .val (.int p2), .val (.int p3), .val (.int (p1 &&& (3 : Int32))), .val (.ref b1), .val (.ref b7), .val (.ref b13), .val (.ref b20), .val (.ref b20), .val (.ref b20), .val (.ref b20), .unset, .unset]) X98 at_111 rfl rfl rfl ?_
          refine o_aload (pc' := 115) (v := (.ref b20)) X98 at_113 rfl rfl rfl ?_
          refine o_aload (pc' := 117) (v := (.ref b20)) X98 at_115 rfl rfl rfl ?_
          refine o_acmp (pc' := 122) (same := true) X98 at_117 rfl rfl (decide_eq_true rfl) (by decide) (by decide) ?_
          refine o_aload (pc' := 124) (v := (.ref b7)) X98 at_122 rfl rfl rfl ?_
          have f100 := ((((((((A7.wr W9).wr W11).ext E13).wr W18).ext E20).keep K25).keep K96).keep K98)
          have I99 := Ins.self f100
          refine o_static (pc' := 127) (argsL := [(.ref b7)]) (rest := []) (ws' := []) X98 (w_30 hw) (w_31 hw) (w_32 hw) (w_33 hw) (by decide) (lenOf pd_4 rfl) (back_met (W := 0) (rm_ofArr l Z a0 hw [] zc ca kca cvs S_String_COMPACT_STRINGS hzc S_Integer_IntegerCache_high S_Integer_IntegerCache_cache A_cache C_cache (b7) h98 n0 X98.old I99) X98 (w_33 hw) (w_32 hw) (by decide) (by decide)) at_124 rfl rfl rfl (Nat.le_of_eq rfl) (by decide) (by decide) qq_fr all0 ?_
          rintro v101 T101 h101 L101 X101 ⟨-, -, Q101⟩ K101
          have z101 := K101.1
          obtain ⟨r_102, rfl, q103, q104, q105⟩ := Q101
          show Go p.tables e below _ (T101.setTop (mkF m 127 #[.val (.int p1), .val (.int p2), .val (.int p3), .val (.int (p1 &&& (3 : Int32))), .val (.ref b1), .val (.ref b7), .val (.ref b13), .val (.ref b20), .val (.ref b20), .val (.ref b20), .val (.ref b20), .unset, .unset] [(.ref r_102)]))
          refine o_astore (pc' := 129) (l' := #[.val (.int p1), .val (.int p2), .val (.int p3), .val (.int (p1 &&& (3 : Int32))), .val (.ref b1), .val (.ref b7), .val (.ref b13), .val (.ref b20), .val (.ref b20), .val (.ref b20), .val (.ref b20), .val (.ref r_102), .unset]) X101 at_127 rfl rfl rfl ?_
          refine o_aload (pc' := 131) (v := (.ref r_102)) X101 at_129 rfl rfl rfl ?_
          refine o_static (pc' := 134) (argsL := [(.ref r_102)]) (rest := []) (ws' := []) X101 (w_44 hw) (w_45 hw) (w_32 hw) (w_46 hw) (by decide) (lenOf pd_4 rfl) (back_met (W := 0) (rm_valKey l Z a0 hw [] zc ca kca cvs S_String_COMPACT_STRINGS hzc S_Integer_IntegerCache_high S_Integer_IntegerCache_cache A_cache C_cache (r_102) (b7) h101 n0 X101.old q103 q104) X101 (w_46 hw) (w_32 hw) (by decide) (by decide)) at_131 rfl rfl rfl (Nat.le_of_eq rfl) (by decide) (by decide) qq_fr all0 ?_
          rintro v106 T106 h106 L106 X106 ⟨-, -, Q106⟩ K106
          have z106 := K106.1
          obtain rfl := Q106
          show Go p.tables e below _ (T106.setTop (mkF m 134 #[.val (.int p1), .val (.int p2), .val (.int p3), .val (.int (p1 &&& (3 : Int32))), .val (.ref b1), .val (.ref b7), .val (.ref b13), .val (.ref b20), .val (.ref b20), .val (.ref b20), .val (.ref b20), .val (.ref r_102), .unset] [(.ref b7)]))
          refine o_astore (pc' := 136) (l' := #[.val (.int p1), .val (.int p2), .val (.int p3), .val (.int (p1 &&& (3 : Int32))), .val (.ref b1), .val (.ref b7), .val (.ref b13), .val (.ref b20), .val (.ref b20), .val (.ref b20), .val (.ref b20), .val (.ref r_102), .val (.ref b7)]) X106 at_134 rfl rfl rfl ?_
          refine o_aload (pc' := 138) (v := (.ref b7)) X106 at_136 rfl rfl rfl ?_
          refine o_aload (pc' := 140) (v := (.ref b7)) X106 at_138 rfl rfl rfl ?_
          refine o_acmp (pc' := 145) (same := true) X106 at_140 rfl rfl (decide_eq_true rfl) (by decide) (by decide) ?_
          refine o_iloadN (pc' := 146) (v := (p1 &&& (3 : Int32))) X106 at_145 rfl rfl ?_
          refine o_ifNo (pc' := 149) X106 at_146 rfl ((if0 _ _).trans (feq hc27).1) ?_
          refine o_aload (pc' := 151) (v := (.ref b20)) X106 at_149 rfl rfl rfl ?_
          have f107 := (((f97.keep K98).keep K101).keep K106)
          refine o_static (pc' := 154) (argsL := [(.ref b20)]) (rest := []) (ws' := []) X106 (w_44 hw) (w_45 hw) (w_32 hw) (w_46 hw) (by decide) (lenOf pd_4 rfl) (back_met (W := 0) (rm_valStr l Z a0 hw [] zc ca kca cvs S_String_COMPACT_STRINGS hzc S_Integer_IntegerCache_high S_Integer_IntegerCache_cache A_cache C_cache (b20) h106 n0 X106.old f107) X106 (w_46 hw) (w_32 hw) (by decide) (by decide)) at_151 rfl rfl rfl (Nat.le_of_eq rfl) (by decide) (by decide) qq_fr all0 ?_
          rintro v108 T108 h108 L108 X108 ⟨-, -, Q108⟩ K108
          have z108 := K108.1
          obtain rfl := Q108
          show Go p.tables e below _ (T108.setTop (mkF m 154 #[.val (.int p1), .val (.int p2), .val (.int p3), .val (.int (p1 &&& (3 : Int32))), .val (.ref b1), .val (.ref b7), .val (.ref b13), .val (.ref b20), .val (.ref b20), .val (.ref b20), .val (.ref b20), .val (.ref r_102), .val (.ref b7)] [(.ref b20)]))
          refine o_aload (pc' := 156) (v := (.ref b20)) X108 at_154 rfl rfl rfl ?_
          refine o_acmp (pc' := 161) (same := true) X108 at_156 rfl rfl (decide_eq_true rfl) (by decide) (by decide) ?_
          refine o_iconst (pc' := 162) (v := (1 : Int32)) X108 at_161 rfl (by decide) ?_
          exact o_nret (y := (1 : Int32)) (t := .boolean) X108 at_162 rfl (by decide) (by simp) (by decide) (by decide) rfl
      · refine o_icmpYes (pc' := 96) X25 at_86 (by decide) (by decide) (feq hc78).2 ?_
        refine o_aconstNull (pc' := 97) X25 at_96 rfl ?_
        refine o_astore (pc' := 99) (l' := #[.val (.int p1), .val (.int p2), .val (.int p3), .val (.int (p1 &&& (3 : Int32))), .val (.ref b1), .val (.ref b7), .val (.ref b13), .val (.ref b20), .val .null, .unset, .unset, .unset, .unset]) X25 at_97 rfl rfl rfl ?_
        refine o_aload (pc' := 101) (v := .null) X25 at_99 rfl rfl rfl ?_
        refine o_static (pc' := 104) (argsL := [.null]) (rest := []) (ws' := []) X25 (w_30 hw) (w_31 hw) (w_32 hw) (w_33 hw) (by decide) (lenOf pd_4 rfl) (back_met (W := 0) (rm_ofNull l Z a0 hw [] zc ca kca cvs S_String_COMPACT_STRINGS hzc S_Integer_IntegerCache_high S_Integer_IntegerCache_cache A_cache C_cache  h25 n0 X25.old ) X25 (w_33 hw) (w_32 hw) (by decide) (by decide)) at_101 rfl rfl rfl (Nat.le_of_eq rfl) (by decide) (by decide) qq_fr all0 ?_
        rintro v109 T109 h109 L109 X109 ⟨-, -, Q109⟩ K109
        have z109 := K109.1
        obtain rfl := Q109
        show Go p.tables e below _ (T109.setTop (mkF m 104 #[.val (.int p1), .val (.int p2), .val (.int p3), .val (.int (p1 &&& (3 : Int32))), .val (.ref b1), .val (.ref b7), .val (.ref b13), .val (.ref b20), .val .null, .unset, .unset, .unset, .unset] [.null]))
        refine o_astore (pc' := 106) (l' := #[.val (.int p1), .val (.int p2), .val (.int p3), .val (.int (p1 &&& (3 : Int32))), .val (.ref b1), .val (.ref b7), .val (.ref b13), .val (.ref b20), .val .null, .val .null, .unset, .unset, .unset]) X109 at_104 rfl rfl rfl ?_
        refine o_aload (pc' := 108) (v := .null) X109 at_106 rfl rfl rfl ?_
        refine o_static (pc' := 111) (argsL := [.null]) (rest := []) (ws' := []) X109 (w_44 hw) (w_45 hw) (w_32 hw) (w_46 hw) (by decide) (lenOf pd_4 rfl) (back_met (W := 0) (rm_valNull l Z a0 hw [] zc ca kca cvs S_String_COMPACT_STRINGS hzc S_Integer_IntegerCache_high S_Integer_IntegerCache_cache A_cache C_cache  h109 n0 X109.old ) X109 (w_46 hw) (w_32 hw) (by decide) (by decide)) at_108 rfl rfl rfl (Nat.le_of_eq rfl) (by decide) (by decide) qq_fr all0 ?_
        rintro v110 T110 h110 L110 X110 ⟨-, -, Q110⟩ K110
        have z110 := K110.1
        obtain rfl := Q110
        show Go p.tables e below _ (T110.setTop (mkF m 111 #[.val (.int p1), .val (.int p2), .val (.int p3), .val (.int (p1 &&& (3 : Int32))), .val (.ref b1), .val (.ref b7), .val (.ref b13), .val (.ref b20), .val .null, .val .null, .unset, .unset, .unset] [.null]))
        refine o_astore (pc' := 113) (l' := #[.val (.int p1), .val (.int p2), .val (.int p3), .val (.int (p1 &&& (3 : Int32))), .val (.ref b1), .val (.ref b7), .val (.ref b13), .val (.ref b20), .val .null, .val .null, .val .null, .unset, .unset]) X110 at_111 rfl rfl rfl ?_
        refine o_aload (pc' := 115) (v := .null) X110 at_113 rfl rfl rfl ?_
        refine o_aload (pc' := 117) (v := .null) X110 at_115 rfl rfl rfl ?_
        refine o_acmp (pc' := 122) (same := true) X110 at_117 rfl rfl (decide_eq_true rfl) (by decide) (by decide) ?_
        refine o_aload (pc' := 124) (v := (.ref b7)) X110 at_122 rfl rfl rfl ?_
        have f112 := ((((((((A7.wr W9).wr W11).ext E13).wr W18).ext E20).keep K25).keep K109).keep K110)
        have I111 := Ins.self f112
        refine o_static (pc' := 127) (argsL := [(.ref b7)]) (rest := []) (ws' := []) X110 (w_30 hw) (w_31 hw) (w_32 hw) (w_33 hw) (by decide) (lenOf pd_4 rfl) (back_met (W := 0) (rm_ofArr l Z a0 hw [] zc ca kca cvs S_String_COMPACT_STRINGS hzc S_Integer_IntegerCache_high S_Integer_IntegerCache_cache A_cache C_cache (b7) h110 n0 X110.old I111) X110 (w_33 hw) (w_32 hw) (by decide) (by decide)) at_124 rfl rfl rfl (Nat.le_of_eq rfl) (by decide) (by decide) qq_fr all0 ?_
        rintro v113 T113 h113 L113 X113 ⟨-, -, Q113⟩ K113
        have z113 := K113.1
        obtain ⟨r_114, rfl, q115, q116, q117⟩ := Q113
        show Go p.tables e below _ (T113.setTop (mkF m 127 #[.val (.int p1), .val (.int p2), .val (.int p3), .val (.int (p1 &&& (3 : Int32))), .val (.ref b1), .val (.ref b7), .val (.ref b13), .val (.ref b20), .val .null, .val .null, .val .null, .unset, .unset] [(.ref r_114)]))
        refine o_astore (pc' := 129) (l' := #[.val (.int p1), .val (.int p2), .val (.int p3), .val (.int (p1 &&& (3 : Int32))), .val (.ref b1), .val (.ref b7), .val (.ref b13), .val (.ref b20), .val .null, .val .null, .val .null, .val (.ref r_114), .unset]) X113 at_127 rfl rfl rfl ?_
        refine o_aload (pc' := 131) (v := (.ref r_114)) X113 at_129 rfl rfl rfl ?_
        refine o_static (pc' := 134) (argsL := [(.ref r_114)]) (rest := []) (ws' := []) X113 (w_44 hw) (w_45 hw) (w_32 hw) (w_46 hw) (by decide) (lenOf pd_4 rfl) (back_met (W := 0) (rm_valKey l Z a0 hw [] zc ca kca cvs S_String_COMPACT_STRINGS hzc S_Integer_IntegerCache_high S_Integer_IntegerCache_cache A_cache C_cache (r_114) (b7) h113 n0 X113.old q115 q116) X113 (w_46 hw) (w_32 hw) (by decide) (by decide)) at_131 rfl rfl rfl (Nat.le_of_eq rfl) (by decide) (by decide) qq_fr all0 ?_
        rintro v118 T118 h118 L118 X118 ⟨-, -, Q118⟩ K118
        have z118 := K118.1
        obtain rfl := Q118
        show Go p.tables e below _ (T118.setTop (mkF m 134 #[.val (.int p1), .val (.int p2), .val (.int p3), .val (.int (p1 &&& (3 : Int32))), .val (.ref b1), .val (.ref b7), .val (.ref b13), .val (.ref b20), .val .null, .val .null, .val .null, .val (.ref r_114), .unset] [(.ref b7)]))
        refine o_astore (pc' := 136) (l' := #[.val (.int p1), .val (.int p2), .val (.int p3), .val (.int (p1 &&& (3 : Int32))), .val (.ref b1), .val (.ref b7), .val (.ref b13), .val (.ref b20), .val .null, .val .null, .val .null, .val (.ref r_114), .val (.ref b7)]) X118 at_134 rfl rfl rfl ?_
        refine o_aload (pc' := 138) (v := (.ref b7)) X118 at_136 rfl rfl rfl ?_
        refine o_aload (pc' := 140) (v := (.ref b7)) X118 at_138 rfl rfl rfl ?_
        refine o_acmp (pc' := 145) (same := true) X118 at_140 rfl rfl (decide_eq_true rfl) (by decide) (by decide) ?_
        refine o_iloadN (pc' := 146) (v := (p1 &&& (3 : Int32))) X118 at_145 rfl rfl ?_
        refine o_ifNo (pc' := 149) X118 at_146 rfl ((if0 _ _).trans (feq hc27).1) ?_
        refine o_aload (pc' := 151) (v := .null) X118 at_149 rfl rfl rfl ?_
        refine o_static (pc' := 154) (argsL := [.null]) (rest := []) (ws' := []) X118 (w_44 hw) (w_45 hw) (w_32 hw) (w_46 hw) (by decide) (lenOf pd_4 rfl) (back_met (W := 0) (rm_valNull l Z a0 hw [] zc ca kca cvs S_String_COMPACT_STRINGS hzc S_Integer_IntegerCache_high S_Integer_IntegerCache_cache A_cache C_cache  h118 n0 X118.old ) X118 (w_46 hw) (w_32 hw) (by decide) (by decide)) at_151 rfl rfl rfl (Nat.le_of_eq rfl) (by decide) (by decide) qq_fr all0 ?_
        rintro v119 T119 h119 L119 X119 ⟨-, -, Q119⟩ K119
        have z119 := K119.1
        obtain rfl := Q119
        show Go p.tables e below _ (T119.setTop (mkF m 154 #[.val (.int p1), .val (.int p2), .val (.int p3), .val (.int (p1 &&& (3 : Int32))), .val (.ref b1), .val (.ref b7), .val (.ref b13), .val (.ref b20), .val .null, .val .null, .val .null, .val (.ref r_114), .val (.ref b7)] [.null]))
        refine o_aload (pc' := 156) (v := .null) X119 at_154 rfl rfl rfl ?_
        refine o_acmp (pc' := 161) (same := true) X119 at_156 rfl rfl (decide_eq_true rfl) (by decide) (by decide) ?_
        refine o_iconst (pc' := 162) (v := (1 : Int32)) X119 at_161 rfl (by decide) ?_
        exact o_nret (y := (1 : Int32)) (t := .boolean) X119 at_162 rfl (by decide) (by simp) (by decide) (by decide) rfl
set_option maxRecDepth 65536 in
set_option maxHeartbeats 40000000 in
theorem comes_1 {Post : Tables → Env → Array Value → State → Outcome → State → Prop} (hpost : ∀ tb e args s v u, (limb_1_1.after args s (.returned v) u = true ∧ limb_1_2.after args s (.returned v) u = true ∧ True) → FrameEnd s (.returned v) u (Jvm.fieldLocs frame_1_writes args s ++ Jvm.arrayLocs frame_1_arrays args s ++ Jvm.staticLocs frame_1_statics s) 24 128 → Post tb e args s (.returned v) u) :
    ArmFor flags0 classFile x code maxLocals ret World_1 tables_1 room_1 Calls_1 rest_1 Pre_1 Post := by
  intro l hfl _ _ p e ha hc hk s m args below hf hA hF happ hP
  obtain ⟨hcalls, hrest, hpre⟩ := hP
  obtain ⟨-, -, -, hnamed, -, -, -, hat⟩ := (Spec.applies_iff hf).mp happ
  obtain ⟨hg, hn⟩ := and_e (Cond.before_iff.mp (show (Jvm.Cond.and given_1 narrow_1).before args s = true from hpre))
  obtain ⟨g0, gt0⟩ := and_e hg
  obtain ⟨ga0, gt1⟩ := and_e gt0
  obtain ⟨ga1, gt2⟩ := and_e gt1
  obtain ⟨v0, v1, v2, rfl⟩ : ∃ v0 v1 v2 : Value, args = #[v0, v1, v2] := by
    have hs : args.size = 3 := by simpa [Cond.value, given_1] using g0
    obtain ⟨L⟩ := args
    match L, hs with
    | [v0, v1, v2], _ => exact ⟨v0, v1, v2, rfl⟩
  have hw := fun d (hd : d ∈ tables_1) => atoms_spec (ws := Jvm.Cond.code x code maxLocals ret :: tables_1) hat d (List.mem_cons_of_mem _ hd)
  have hfit : Fit s := fun {y c} hc i hi => by
    obtain ⟨ha, rfl⟩ := Array.getElem?_eq_some_iff.mp hc
    have q := List.all_eq_true.mp ((Array.all_eq_true_iff_forall_mem.mp hF) _ (Array.getElem_mem ha)) i (List.mem_range.mpr hi)
    simpa [Array.getElem?_eq_getElem hi] using q
  obtain ⟨hsets, hown0⟩ := atoms_of _ (rest_1_c_eq ▸ (show rest_1_c.before _ s = true from hrest))
  obtain ⟨i0, ei0⟩ := is_v ga0
  obtain rfl : v0 = (.int i0) := Option.some.inj ei0
  obtain ⟨i1, ei1⟩ := is_v ga1
  obtain rfl : v1 = (.int i1) := Option.some.inj ei1
  obtain ⟨i2, ei2⟩ := is_v gt2
  obtain rfl : v2 = (.int i2) := Option.some.inj ei2
  obtain ⟨zc, ezc⟩ := is_v (Cond.before_iff.mp (hsets _ (List.mem_of_getElem? (i := 1) rfl)))
  have S_zc : Sta s s.heap "java/lang/String" "COMPACT_STRINGS" "Z" (.int zc) := Sta.start ezc (Or.inl (hsets _ (List.mem_of_getElem? (i := 0) rfl)))
  have hzc : ¬ (zc = (0 : Int32)) := gotF (Cond.eq_ints ezc (Term.int_eval (0))) (not_v (Cond.before_iff.mp (hsets _ (List.mem_of_getElem? (i := 2) rfl))))
  obtain ⟨ca, kca, cvs, S_hi, S_ca, A_ca, C_ca⟩ := own_icache (args := #[.int i0, .int i1, .int i2]) hfit (w_53 hw) (hsets _ (List.mem_of_getElem? (i := 10) rfl)) (hsets _ (List.mem_of_getElem? (i := 11) rfl)) (hsets _ (List.mem_of_getElem? (i := 12) rfl)) (hsets _ (List.mem_of_getElem? (i := 13) rfl)) (hsets _ (List.mem_of_getElem? (i := 15) rfl)) (hsets _ (List.mem_of_getElem? (i := 16) rfl))
  obtain ⟨n, o, h1, h2, h3, _, L, rfl, ⟨N, -, rfl⟩, hq⟩ := rm_law l s _ hw tables_1 zc ca kca cvs S_zc hzc S_hi S_ca A_ca C_ca i0 i1 i2 s.heap s.heap.size (Old.start s) p e ha hc hk s m _ below hf ((Spec.applies_iff_loose hf).mp happ).1 ⟨rfl, State.Warmed39.refl s, rfl⟩ trivial
  refine ⟨n, _, h1, h2, h3, hpost _ _ _ _ _ _ ⟨Cond.after_iff.mpr rfl, Cond.after_iff.mpr (eq_i res_at (Term.int_eval (1)) rfl), trivial⟩ ⟨hq.1, hq.2.1, (hq.2.2.sift fun y hy => Or.inr (N y hy)).mono (by decide) (by decide)⟩⟩
theorem main_1_1 : Claimed_1_1 := comes_1 fun _ _ _ _ _ _ h hF => ⟨h.1, hF⟩
theorem main_1_2 : Claimed_1_2 := comes_1 fun _ _ _ _ _ _ h hF => ⟨h.2.1, hF⟩
end Jvm.Pilot.@@N@@
namespace Jvm.Pilot.@@N@@
open Jvm Jvm.ClassFile Sem Op Lib Jvm.Free Jvm.Stand Jvm.Pilot.@@N@@.Jvm.D
/-! MADE BY PROGRAM (witnessworld.py) out of the Statement's table words and the real class files: 24 classes; the members and pool entries that the words name. The judged class is class 1, her method 1. -/
namespace start1
open Jvm.ClassFile
def u (s : String) : CpInfo := .utf8 (stringToUtf16 s)
/-- a pool by its gaps: so many unusable entries, then the entry; so many at the end -/
def gap : Nat → List CpInfo → List CpInfo
  | 0, r => r
  | n + 1, r => .unusable :: gap n r
def poolList (es : List (Nat × CpInfo)) (last : Nat) : List CpInfo := es.foldr (fun e r => gap e.1 (e.2 :: r)) (gap last [])
def pool (es : List (Nat × CpInfo)) (last : Nat) : Array CpInfo := ⟨poolList es last⟩
def fileOf (pool : Array CpInfo) (this : Nat) (attrs : Array Attribute := #[]) (ms : Array MethodInfo := #[]) (fl : Nat := 33) (sup : Nat := 0) (ifs : Array Nat := #[]) (fds : Array FieldInfo := #[]) : ClassFile where
  minorVersion := 0
  majorVersion := 65
  constantPool := pool
  accessFlags := fl
  thisClass := this
  superClass := sup
  interfaces := ifs
  fields := fds
  methods := ms
  attributes := attrs
def plain (name : String) (sup : Option ClassId) : Class where
  name := name
  kind := .ordinary
  loader := none
  accessFlags := 33
  super := sup
  interfaces := #[]
  cf := none
  fields := #[]
  methods := #[]
  instanceTypes := #[]
  staticTypes := #[]
  resolved := #[]
  callSites := []
  init := .initialized
  statics := none
  mirror := none

def pool0 : Array CpInfo := pool [(5, u "<init>"), (0, u "()V"), (1, .class_ 10), (1, u "java/lang/Object")] 113

def k0c0 : Code := { maxStack := 0, maxLocals := 1, code := object_method_1_code, exceptionTable := #[], attributes := #[] }
def k0m0 : Method := { name := "<init>", desc := "()V", sig := { parameters := [], returnType := none }, accessFlags := 1, code := some k0c0 }
/-- java/lang/Object -/
def k0 : Class := { plain "java/lang/Object" none with
  accessFlags := 33
  interfaces := #[]
  cf := some (fileOf pool0 8 #[] #[{ accessFlags := 1, nameIndex := 5, descriptorIndex := 6, attributes := #[] }] 33 0 #[] #[])
  fields := #[]
  methods := #[k0m0]
  instanceTypes := #[]
  staticTypes := #[]
  resolved := Array.replicate 124 none
  statics := none }

def pool1 : Array CpInfo := pool [(2, .class_ 4), (1, u "java/lang/Object"), (0, u "<init>"), (0, u "()V"), (0, .class_ 8), (0, u "java/lang/String"), (0, .methodref 7 10), (0, .nameAndType 5 11), (0, u "([C)V"), (0, .methodref 13 14), (0, .class_ 15), (0, .nameAndType 16 17), (0, u "java/lang/Integer"), (0, u "valueOf"), (0, u "(I)Ljava/lang/Integer;"), (0, .methodref 19 20), (0, .class_ 21), (0, .nameAndType 22 23), (0, u "com/example/plain_mapper/plainmapper/BinaryKey"), (0, u "of"), (0, u "(Ljava/lang/Object;)Ljava/lang/Object;"), (0, .methodref 19 25), (0, .nameAndType 26 23), (0, u "value"), (0, .class_ 28), (0, u "com/example/plain_mapper/plainmapper/BinaryKeyValuePinLaw"), (2, u "law"), (0, u "(III)Z")] 7

def k1m0 : Method := { name := "<init>", desc := "()V", sig := { parameters := [], returnType := none }, accessFlags := 1, code := none }
def k1c1 : Code := { maxStack := 5, maxLocals := 13, code := code, exceptionTable := #[], attributes := #[] }
def k1m1 : Method := { name := "law", desc := "(III)Z", sig := { parameters := [.int, .int, .int], returnType := some .boolean }, accessFlags := 9, code := some k1c1 }
/-- com/example/plain_mapper/plainmapper/BinaryKeyValuePinLaw -/
def k1 : Class := { plain "com/example/plain_mapper/plainmapper/BinaryKeyValuePinLaw" (some 0) with
  accessFlags := 49
  interfaces := #[]
  cf := some (fileOf pool1 27 #[] #[{ accessFlags := 1, nameIndex := 5, descriptorIndex := 6, attributes := #[] }, { accessFlags := 9, nameIndex := 31, descriptorIndex := 32, attributes := #[] }] 49 2 #[] #[])
  fields := #[]
  methods := #[k1m0, k1m1]
  instanceTypes := #[]
  staticTypes := #[]
  resolved := Array.replicate 40 none
  statics := none }

def pool2 : Array CpInfo := pool [(1, .class_ 2), (0, u "java/io/Serializable"), (0, .class_ 4), (0, u "java/lang/Object")] 2

/-- java/io/Serializable -/
def k2 : Class := { plain "java/io/Serializable" (some 0) with
  accessFlags := 1537
  interfaces := #[]
  cf := some (fileOf pool2 1 #[] #[] 1537 3 #[] #[])
  fields := #[]
  methods := #[]
  instanceTypes := #[]
  staticTypes := #[]
  resolved := Array.replicate 7 none
  statics := none }

def pool3 : Array CpInfo := pool [(1, .class_ 2), (0, u "java/lang/Comparable"), (0, .class_ 4), (0, u "java/lang/Object")] 7

/-- java/lang/Comparable -/
def k3 : Class := { plain "java/lang/Comparable" (some 0) with
  accessFlags := 1537
  interfaces := #[]
  cf := some (fileOf pool3 1 #[] #[] 1537 3 #[] #[])
  fields := #[]
  methods := #[]
  instanceTypes := #[]
  staticTypes := #[]
  resolved := Array.replicate 12 none
  statics := none }

def pool4 : Array CpInfo := pool [(2, .class_ 4), (1, u "java/lang/CharSequence"), (42, .class_ 48), (0, u "java/lang/CharSequence$1CodePointIterator"), (10, .class_ 60), (0, u "java/lang/CharSequence$1CharIterator"), (5, .class_ 67), (0, u "java/lang/Object")] 63

/-- java/lang/CharSequence -/
def k4 : Class := { plain "java/lang/CharSequence" (some 0) with
  accessFlags := 1537
  interfaces := #[]
  cf := some (fileOf pool4 2 #[.nestMembers #[47, 59]] #[] 1537 66 #[] #[])
  fields := #[]
  methods := #[]
  instanceTypes := #[]
  staticTypes := #[]
  resolved := Array.replicate 131 none
  statics := none }

def pool5 : Array CpInfo := pool [(1, .class_ 2), (0, u "java/lang/constant/Constable"), (0, .class_ 4), (0, u "java/lang/Object")] 6

/-- java/lang/constant/Constable -/
def k5 : Class := { plain "java/lang/constant/Constable" (some 0) with
  accessFlags := 1537
  interfaces := #[]
  cf := some (fileOf pool5 1 #[] #[] 1537 3 #[] #[])
  fields := #[]
  methods := #[]
  instanceTypes := #[]
  staticTypes := #[]
  resolved := Array.replicate 11 none
  statics := none }

def pool6 : Array CpInfo := pool [(1, .class_ 2), (0, u "java/lang/constant/ConstantDesc"), (0, .class_ 4), (0, u "java/lang/Object")] 32

/-- java/lang/constant/ConstantDesc -/
def k6 : Class := { plain "java/lang/constant/ConstantDesc" (some 0) with
  accessFlags := 1537
  interfaces := #[]
  cf := some (fileOf pool6 1 #[] #[] 1537 3 #[] #[])
  fields := #[]
  methods := #[]
  instanceTypes := #[]
  staticTypes := #[]
  resolved := Array.replicate 37 none
  statics := none }

def pool7 : Array CpInfo := pool [(1, .methodref 2 3), (0, .class_ 4), (0, .nameAndType 5 6), (0, u "java/lang/Object"), (0, u "<init>"), (0, u "()V"), (2, .fieldref 10 11), (0, .class_ 12), (0, .nameAndType 13 14), (0, u "java/lang/String"), (0, u "value"), (0, u "[B"), (0, .fieldref 10 16), (0, .nameAndType 17 18), (0, u "coder"), (0, u "B"), (2, u "hash"), (0, u "I"), (2, u "hashIsZero"), (0, u "Z"), (0, .methodref 10 28), (0, .nameAndType 5 29), (0, u "([CIILjava/lang/Void;)V"), (8, .fieldref 10 39), (0, .nameAndType 40 26), (0, u "COMPACT_STRINGS"), (1, .class_ 44), (1, u "java/lang/StringUTF16"), (0, u "compress"), (1, .methodref 42 48), (0, .nameAndType 49 50), (0, u "coderFromArrayLen"), (0, u "([BI)B"), (126, .methodref 42 178), (0, .nameAndType 45 179), (0, u "([CII)[B"), (395, .class_ 576), (0, u "java/lang/CharSequence"), (22, u "CASE_INSENSITIVE_ORDER"), (0, u "Ljava/util/Comparator;"), (409, u "([C)V"), (90, u "serialPersistentFields"), (0, u "[Ljava/io/ObjectStreamField;"), (0, .class_ 1104), (0, u "java/lang/String$CaseInsensitiveComparator"), (1, .class_ 1107), (0, u "java/io/Serializable"), (0, .class_ 1109), (0, u "java/lang/Comparable"), (0, .class_ 1111), (0, u "java/lang/constant/Constable"), (0, .class_ 1113), (0, u "java/lang/constant/ConstantDesc"), (2, u "serialVersionUID"), (0, u "J"), (3, u "REPL"), (0, u "C"), (2, u "LATIN1"), (1, u "UTF16")] 323

def k7m0 : Method := { name := "<init>", desc := "()V", sig := { parameters := [], returnType := none }, accessFlags := 1, code := none }
def k7c1 : Code := { maxStack := 5, maxLocals := 2, code := jdk_42_method_3_code, exceptionTable := #[], attributes := #[] }
def k7m1 : Method := { name := "<init>", desc := "([C)V", sig := { parameters := [(.array .char)], returnType := none }, accessFlags := 1, code := some k7c1 }
def k7c2 : Code := { maxStack := 4, maxLocals := 6, code := jdk_42_method_149_code, exceptionTable := #[], attributes := #[] }
def k7m2 : Method := { name := "<init>", desc := "([CIILjava/lang/Void;)V", sig := { parameters := [(.array .char), .int, .int, (.object "java/lang/Void")], returnType := none }, accessFlags := 2, code := some k7c2 }
/-- java/lang/String -/
def k7 : Class := { plain "java/lang/String" (some 0) with
  accessFlags := 49
  interfaces := #[2, 3, 4, 5, 6]
  cf := some (fileOf pool7 10 #[.nestMembers #[1103]] #[{ accessFlags := 1, nameIndex := 5, descriptorIndex := 6, attributes := #[] }, { accessFlags := 1, nameIndex := 5, descriptorIndex := 1010, attributes := #[] }, { accessFlags := 2, nameIndex := 5, descriptorIndex := 29, attributes := #[] }] 49 2 #[1106, 1108, 575, 1110, 1112] #[{ accessFlags := 18, nameIndex := 13, descriptorIndex := 14, attributes := #[] }, { accessFlags := 18, nameIndex := 17, descriptorIndex := 18, attributes := #[] }, { accessFlags := 2, nameIndex := 21, descriptorIndex := 22, attributes := #[] }, { accessFlags := 2, nameIndex := 25, descriptorIndex := 26, attributes := #[] }, { accessFlags := 26, nameIndex := 1116, descriptorIndex := 1117, attributes := #[] }, { accessFlags := 24, nameIndex := 40, descriptorIndex := 26, attributes := #[] }, { accessFlags := 26, nameIndex := 1101, descriptorIndex := 1102, attributes := #[] }, { accessFlags := 26, nameIndex := 1121, descriptorIndex := 1122, attributes := #[] }, { accessFlags := 25, nameIndex := 599, descriptorIndex := 600, attributes := #[] }, { accessFlags := 24, nameIndex := 1125, descriptorIndex := 18, attributes := #[] }, { accessFlags := 24, nameIndex := 1127, descriptorIndex := 18, attributes := #[] }])
  fields := #[{ name := "value", type := (.array .byte), accessFlags := 18, slot := 0, constantValue := 0 }, { name := "coder", type := .byte, accessFlags := 18, slot := 1, constantValue := 0 }, { name := "hash", type := .int, accessFlags := 2, slot := 2, constantValue := 0 }, { name := "hashIsZero", type := .boolean, accessFlags := 2, slot := 3, constantValue := 0 }, { name := "serialVersionUID", type := .long, accessFlags := 26, slot := 0, constantValue := 0 }, { name := "COMPACT_STRINGS", type := .boolean, accessFlags := 24, slot := 1, constantValue := 0 }, { name := "serialPersistentFields", type := (.array (.object "java/io/ObjectStreamField")), accessFlags := 26, slot := 2, constantValue := 0 }, { name := "REPL", type := .char, accessFlags := 26, slot := 3, constantValue := 0 }, { name := "CASE_INSENSITIVE_ORDER", type := (.object "java/util/Comparator"), accessFlags := 25, slot := 4, constantValue := 0 }, { name := "LATIN1", type := .byte, accessFlags := 24, slot := 5, constantValue := 0 }, { name := "UTF16", type := .byte, accessFlags := 24, slot := 6, constantValue := 0 }]
  methods := #[k7m0, k7m1, k7m2]
  instanceTypes := #[(.array .byte), .byte, .int, .boolean]
  staticTypes := #[.long, .boolean, (.array (.object "java/io/ObjectStreamField")), .char, (.object "java/util/Comparator"), .byte, .byte]
  resolved := Array.replicate 1451 none
  statics := some 0 }

def pool8 : Array CpInfo := pool [(6, .class_ 8), (1, u "java/lang/Object"), (0, u "<init>"), (0, u "()V"), (1, .class_ 14), (1, u "java/lang/StringUTF16"), (31, u "$assertionsDisabled"), (0, u "Z"), (13, u "HI_BYTE_SHIFT"), (0, u "I"), (2, u "LO_BYTE_SHIFT"), (49, .methodref 12 116), (0, .nameAndType 117 118), (0, u "compress"), (0, u "([CI[BII)I"), (3, u "([CII)[B"), (138, u "coderFromArrayLen"), (0, u "([BI)B"), (106, .class_ 371), (1, u "java/lang/StringUTF16$LinesSpliterator"), (58, u "MAX_LENGTH"), (196, .class_ 628), (0, u "java/lang/StringUTF16$CodePointsSpliterator"), (0, .class_ 630), (0, u "java/lang/StringUTF16$CharsSpliterator")] 4

def k8m0 : Method := { name := "<init>", desc := "()V", sig := { parameters := [], returnType := none }, accessFlags := 0, code := none }
def k8c1 : Code := { maxStack := 2, maxLocals := 2, code := jdk_52_method_15_code, exceptionTable := #[], attributes := #[] }
def k8m1 : Method := { name := "coderFromArrayLen", desc := "([BI)B", sig := { parameters := [(.array .byte), .int], returnType := some .byte }, accessFlags := 8, code := some k8c1 }
def k8c2 : Code := { maxStack := 5, maxLocals := 6, code := jdk_52_method_16_code, exceptionTable := #[], attributes := #[] }
def k8m2 : Method := { name := "compress", desc := "([CII)[B", sig := { parameters := [(.array .char), .int, .int], returnType := some (.array .byte) }, accessFlags := 9, code := some k8c2 }
def k8c3 : Code := { maxStack := 3, maxLocals := 7, code := jdk_52_method_21_code, exceptionTable := #[], attributes := #[] }
def k8m3 : Method := { name := "compress", desc := "([CI[BII)I", sig := { parameters := [(.array .char), .int, (.array .byte), .int, .int], returnType := some .int }, accessFlags := 9, code := some k8c3 }
/-- java/lang/StringUTF16 -/
def k8 : Class := { plain "java/lang/StringUTF16" (some 0) with
  accessFlags := 48
  interfaces := #[]
  cf := some (fileOf pool8 12 #[.nestMembers #[627, 629, 369]] #[{ accessFlags := 0, nameIndex := 9, descriptorIndex := 10, attributes := #[] }, { accessFlags := 8, nameIndex := 261, descriptorIndex := 262, attributes := #[] }, { accessFlags := 9, nameIndex := 117, descriptorIndex := 122, attributes := #[] }, { accessFlags := 9, nameIndex := 117, descriptorIndex := 118, attributes := #[] }] 48 6 #[] #[{ accessFlags := 26, nameIndex := 61, descriptorIndex := 62, attributes := #[] }, { accessFlags := 26, nameIndex := 65, descriptorIndex := 62, attributes := #[] }, { accessFlags := 24, nameIndex := 430, descriptorIndex := 62, attributes := #[] }, { accessFlags := 4120, nameIndex := 46, descriptorIndex := 47, attributes := #[] }])
  fields := #[{ name := "HI_BYTE_SHIFT", type := .int, accessFlags := 26, slot := 0, constantValue := 0 }, { name := "LO_BYTE_SHIFT", type := .int, accessFlags := 26, slot := 1, constantValue := 0 }, { name := "MAX_LENGTH", type := .int, accessFlags := 24, slot := 2, constantValue := 0 }, { name := "$assertionsDisabled", type := .boolean, accessFlags := 4120, slot := 3, constantValue := 0 }]
  methods := #[k8m0, k8m1, k8m2, k8m3]
  instanceTypes := #[]
  staticTypes := #[.int, .int, .int, .boolean]
  resolved := Array.replicate 635 none
  statics := none }

def pool9 : Array CpInfo := pool [(1, .methodref 2 3), (0, .class_ 4), (0, .nameAndType 5 6), (0, u "java/lang/Object"), (0, u "<init>"), (0, u "()V"), (0, .fieldref 8 9), (0, .class_ 10), (0, .nameAndType 11 12), (0, u "com/example/plain_mapper/plainmapper/BinaryKey"), (0, u "bytes"), (0, u "[B"), (0, .class_ 12), (0, .methodref 8 15), (0, .nameAndType 5 16), (0, u "([B)V"), (12, u "of"), (0, u "(Ljava/lang/Object;)Ljava/lang/Object;"), (1, u "value")] 4

def k9c0 : Code := { maxStack := 2, maxLocals := 2, code := prog_7_method_1_code, exceptionTable := #[], attributes := #[] }
def k9m0 : Method := { name := "<init>", desc := "([B)V", sig := { parameters := [(.array .byte)], returnType := none }, accessFlags := 2, code := some k9c0 }
def k9c1 : Code := { maxStack := 3, maxLocals := 1, code := prog_7_method_2_code, exceptionTable := #[], attributes := #[] }
def k9m1 : Method := { name := "of", desc := "(Ljava/lang/Object;)Ljava/lang/Object;", sig := { parameters := [(.object "java/lang/Object")], returnType := some (.object "java/lang/Object") }, accessFlags := 8, code := some k9c1 }
def k9c2 : Code := { maxStack := 1, maxLocals := 1, code := prog_7_method_3_code, exceptionTable := #[], attributes := #[] }
def k9m2 : Method := { name := "value", desc := "(Ljava/lang/Object;)Ljava/lang/Object;", sig := { parameters := [(.object "java/lang/Object")], returnType := some (.object "java/lang/Object") }, accessFlags := 8, code := some k9c2 }
/-- com/example/plain_mapper/plainmapper/BinaryKey -/
def k9 : Class := { plain "com/example/plain_mapper/plainmapper/BinaryKey" (some 0) with
  accessFlags := 32
  interfaces := #[]
  cf := some (fileOf pool9 8 #[] #[{ accessFlags := 2, nameIndex := 5, descriptorIndex := 16, attributes := #[] }, { accessFlags := 8, nameIndex := 29, descriptorIndex := 30, attributes := #[] }, { accessFlags := 8, nameIndex := 32, descriptorIndex := 30, attributes := #[] }] 32 2 #[] #[{ accessFlags := 18, nameIndex := 11, descriptorIndex := 12, attributes := #[] }])
  fields := #[{ name := "bytes", type := (.array .byte), accessFlags := 18, slot := 0, constantValue := 0 }]
  methods := #[k9m0, k9m1, k9m2]
  instanceTypes := #[(.array .byte)]
  staticTypes := #[]
  resolved := Array.replicate 37 none
  statics := none }

def pool10 : Array CpInfo := pool [(1, .methodref 2 3), (0, .class_ 4), (0, .nameAndType 5 6), (0, u "java/lang/Object"), (0, u "<init>"), (0, u "()V"), (1, .class_ 10), (1, u "java/lang/Number"), (2, .class_ 14), (0, u "java/io/Serializable"), (0, u "serialVersionUID"), (0, u "J")] 20

def k10c0 : Code := { maxStack := 1, maxLocals := 1, code := jdk_18_method_1_code, exceptionTable := #[], attributes := #[] }
def k10m0 : Method := { name := "<init>", desc := "()V", sig := { parameters := [], returnType := none }, accessFlags := 1, code := some k10c0 }
/-- java/lang/Number -/
def k10 : Class := { plain "java/lang/Number" (some 0) with
  accessFlags := 1057
  interfaces := #[2]
  cf := some (fileOf pool10 8 #[] #[{ accessFlags := 1, nameIndex := 5, descriptorIndex := 6, attributes := #[] }] 1057 2 #[13] #[{ accessFlags := 26, nameIndex := 15, descriptorIndex := 16, attributes := #[] }])
  fields := #[{ name := "serialVersionUID", type := .long, accessFlags := 26, slot := 0, constantValue := 0 }]
  methods := #[k10m0]
  instanceTypes := #[]
  staticTypes := #[.long]
  resolved := Array.replicate 37 none
  statics := none }

def pool11 : Array CpInfo := pool [(1, .class_ 2), (0, u "java/lang/Integer"), (16, u "digits"), (0, u "[C"), (46, u "<init>"), (17, u "DigitOnes"), (0, u "[B"), (2, u "DigitTens"), (10, .nameAndType 67 101), (0, u "()V"), (85, u "valueOf"), (0, u "(I)Ljava/lang/Integer;"), (0, .class_ 190), (0, u "java/lang/Integer$IntegerCache"), (0, .fieldref 189 192), (0, .nameAndType 193 194), (0, u "high"), (0, u "I"), (0, .fieldref 189 196), (0, .nameAndType 197 198), (0, u "cache"), (0, u "[Ljava/lang/Integer;"), (0, .methodref 1 200), (0, .nameAndType 67 201), (0, u "(I)V"), (0, .methodref 203 100), (0, .class_ 204), (0, u "java/lang/Number"), (0, .fieldref 1 206), (0, .nameAndType 207 194), (0, u "value"), (94, u "TYPE"), (0, u "Ljava/lang/Class;"), (0, .class_ 305), (0, u "java/lang/Comparable"), (0, .class_ 307), (0, u "java/lang/constant/Constable"), (0, .class_ 309), (0, u "java/lang/constant/ConstantDesc"), (0, u "MIN_VALUE"), (1, u "MAX_VALUE"), (3, u "SIZE"), (1, u "BYTES"), (1, u "serialVersionUID"), (0, u "J")] 131

def k11c0 : Code := { maxStack := 3, maxLocals := 1, code := jdk_33_method_22_code, exceptionTable := #[], attributes := #[] }
def k11m0 : Method := { name := "valueOf", desc := "(I)Ljava/lang/Integer;", sig := { parameters := [.int], returnType := some (.object "java/lang/Integer") }, accessFlags := 9, code := some k11c0 }
def k11c1 : Code := { maxStack := 2, maxLocals := 2, code := jdk_33_method_23_code, exceptionTable := #[], attributes := #[] }
def k11m1 : Method := { name := "<init>", desc := "(I)V", sig := { parameters := [.int], returnType := none }, accessFlags := 1, code := some k11c1 }
/-- java/lang/Integer -/
def k11 : Class := { plain "java/lang/Integer" (some 10) with
  accessFlags := 49
  interfaces := #[3, 5, 6]
  cf := some (fileOf pool11 1 #[.nestMembers #[189]] #[{ accessFlags := 9, nameIndex := 187, descriptorIndex := 188, attributes := #[] }, { accessFlags := 1, nameIndex := 67, descriptorIndex := 201, attributes := #[] }] 49 203 #[304, 306, 308] #[{ accessFlags := 25, nameIndex := 310, descriptorIndex := 194, attributes := #[] }, { accessFlags := 25, nameIndex := 312, descriptorIndex := 194, attributes := #[] }, { accessFlags := 25, nameIndex := 302, descriptorIndex := 303, attributes := #[] }, { accessFlags := 24, nameIndex := 19, descriptorIndex := 20, attributes := #[] }, { accessFlags := 24, nameIndex := 89, descriptorIndex := 86, attributes := #[] }, { accessFlags := 24, nameIndex := 85, descriptorIndex := 86, attributes := #[] }, { accessFlags := 18, nameIndex := 207, descriptorIndex := 194, attributes := #[] }, { accessFlags := 25, nameIndex := 316, descriptorIndex := 194, attributes := #[] }, { accessFlags := 25, nameIndex := 318, descriptorIndex := 194, attributes := #[] }, { accessFlags := 26, nameIndex := 320, descriptorIndex := 321, attributes := #[] }])
  fields := #[{ name := "MIN_VALUE", type := .int, accessFlags := 25, slot := 0, constantValue := 0 }, { name := "MAX_VALUE", type := .int, accessFlags := 25, slot := 1, constantValue := 0 }, { name := "TYPE", type := (.object "java/lang/Class"), accessFlags := 25, slot := 2, constantValue := 0 }, { name := "digits", type := (.array .char), accessFlags := 24, slot := 3, constantValue := 0 }, { name := "DigitTens", type := (.array .byte), accessFlags := 24, slot := 4, constantValue := 0 }, { name := "DigitOnes", type := (.array .byte), accessFlags := 24, slot := 5, constantValue := 0 }, { name := "value", type := .int, accessFlags := 18, slot := 0, constantValue := 0 }, { name := "SIZE", type := .int, accessFlags := 25, slot := 6, constantValue := 0 }, { name := "BYTES", type := .int, accessFlags := 25, slot := 7, constantValue := 0 }, { name := "serialVersionUID", type := .long, accessFlags := 26, slot := 8, constantValue := 0 }]
  methods := #[k11m0, k11m1]
  instanceTypes := #[.int]
  staticTypes := #[.int, .int, (.object "java/lang/Class"), (.array .char), (.array .byte), (.array .byte), .int, .int, .long]
  resolved := Array.replicate 453 none
  statics := none }

def pool12 : Array CpInfo := pool [(2, .class_ 4), (1, u "java/lang/Object"), (0, u "<init>"), (0, u "()V"), (0, .class_ 8), (0, u "java/lang/Integer"), (7, .class_ 18), (1, u "java/lang/Integer$IntegerCache"), (0, u "$assertionsDisabled"), (0, u "Z"), (26, u "high"), (0, u "I"), (8, u "archivedCache"), (0, u "[Ljava/lang/Integer;"), (12, u "cache"), (0, u "low")] 27

def k12m0 : Method := { name := "<init>", desc := "()V", sig := { parameters := [], returnType := none }, accessFlags := 2, code := none }
/-- java/lang/Integer$IntegerCache -/
def k12 : Class := { plain "java/lang/Integer$IntegerCache" (some 0) with
  accessFlags := 48
  interfaces := #[]
  cf := some (fileOf pool12 16 #[.nestHost 7] #[{ accessFlags := 2, nameIndex := 5, descriptorIndex := 6, attributes := #[] }] 48 2 #[] #[{ accessFlags := 24, nameIndex := 72, descriptorIndex := 48, attributes := #[] }, { accessFlags := 24, nameIndex := 47, descriptorIndex := 48, attributes := #[] }, { accessFlags := 24, nameIndex := 71, descriptorIndex := 58, attributes := #[] }, { accessFlags := 8, nameIndex := 57, descriptorIndex := 58, attributes := #[] }, { accessFlags := 4120, nameIndex := 19, descriptorIndex := 20, attributes := #[] }])
  fields := #[{ name := "low", type := .int, accessFlags := 24, slot := 0, constantValue := 0 }, { name := "high", type := .int, accessFlags := 24, slot := 1, constantValue := 0 }, { name := "cache", type := (.array (.object "java/lang/Integer")), accessFlags := 24, slot := 2, constantValue := 0 }, { name := "archivedCache", type := (.array (.object "java/lang/Integer")), accessFlags := 8, slot := 3, constantValue := 0 }, { name := "$assertionsDisabled", type := .boolean, accessFlags := 4120, slot := 4, constantValue := 0 }]
  methods := #[k12m0]
  instanceTypes := #[]
  staticTypes := #[.int, .int, (.array (.object "java/lang/Integer")), (.array (.object "java/lang/Integer")), .boolean]
  resolved := Array.replicate 100 none
  statics := some 1 }

def pool13 : Array CpInfo := pool [(4, .class_ 6), (1, u "java/lang/Object"), (0, u "<init>"), (0, u "()V"), (5, .class_ 16), (1, u "java/lang/StringLatin1"), (104, u "$assertionsDisabled"), (0, u "Z"), (98, .class_ 223), (1, u "java/lang/StringLatin1$LinesSpliterator"), (166, .class_ 391), (0, u "java/lang/StringLatin1$CharsSpliterator")] 3

def k13m0 : Method := { name := "<init>", desc := "()V", sig := { parameters := [], returnType := none }, accessFlags := 0, code := none }
/-- java/lang/StringLatin1 -/
def k13 : Class := { plain "java/lang/StringLatin1" (some 0) with
  accessFlags := 48
  interfaces := #[]
  cf := some (fileOf pool13 14 #[.nestMembers #[390, 221]] #[{ accessFlags := 0, nameIndex := 7, descriptorIndex := 8, attributes := #[] }] 48 4 #[] #[{ accessFlags := 4120, nameIndex := 121, descriptorIndex := 122, attributes := #[] }])
  fields := #[{ name := "$assertionsDisabled", type := .boolean, accessFlags := 4120, slot := 0, constantValue := 0 }]
  methods := #[k13m0]
  instanceTypes := #[]
  staticTypes := #[.boolean]
  resolved := Array.replicate 395 none
  statics := none }

def pool14 : Array CpInfo := pool [(2, .class_ 4), (1, u "java/lang/Object"), (0, u "<init>"), (0, u "()V"), (17, .class_ 26), (1, u "jdk/internal/util/Preconditions"), (28, .class_ 56), (0, u "jdk/internal/util/Preconditions$4"), (57, .class_ 115), (0, u "jdk/internal/util/Preconditions$1"), (7, u "SIOOBE_FORMATTER"), (0, u "Ljava/util/function/BiFunction;"), (0, .class_ 126), (0, u "jdk/internal/util/Preconditions$2"), (3, u "AIOOBE_FORMATTER"), (0, .class_ 132), (0, u "jdk/internal/util/Preconditions$3"), (3, u "IOOBE_FORMATTER")] 57

def k14m0 : Method := { name := "<init>", desc := "()V", sig := { parameters := [], returnType := none }, accessFlags := 1, code := none }
/-- jdk/internal/util/Preconditions -/
def k14 : Class := { plain "jdk/internal/util/Preconditions" (some 0) with
  accessFlags := 33
  interfaces := #[]
  cf := some (fileOf pool14 24 #[.nestMembers #[55, 131, 125, 114]] #[{ accessFlags := 1, nameIndex := 5, descriptorIndex := 6, attributes := #[] }] 33 2 #[] #[{ accessFlags := 25, nameIndex := 123, descriptorIndex := 124, attributes := #[] }, { accessFlags := 25, nameIndex := 130, descriptorIndex := 124, attributes := #[] }, { accessFlags := 25, nameIndex := 136, descriptorIndex := 124, attributes := #[] }])
  fields := #[{ name := "SIOOBE_FORMATTER", type := (.object "java/util/function/BiFunction"), accessFlags := 25, slot := 0, constantValue := 0 }, { name := "AIOOBE_FORMATTER", type := (.object "java/util/function/BiFunction"), accessFlags := 25, slot := 1, constantValue := 0 }, { name := "IOOBE_FORMATTER", type := (.object "java/util/function/BiFunction"), accessFlags := 25, slot := 2, constantValue := 0 }]
  methods := #[k14m0]
  instanceTypes := #[]
  staticTypes := #[(.object "java/util/function/BiFunction"), (.object "java/util/function/BiFunction"), (.object "java/util/function/BiFunction")]
  resolved := Array.replicate 194 none
  statics := some 2 }

def pool15 : Array CpInfo := pool [(9, u "<init>"), (6, .class_ 18), (1, u "java/lang/Object"), (0, u "()V"), (1, .class_ 23), (1, u "jdk/internal/util/ArraysSupport"), (0, u "LOG2_ARRAY_LONG_INDEX_SCALE"), (0, u "I"), (2, u "U"), (0, u "Ljdk/internal/misc/Unsafe;"), (8, u "BIG_ENDIAN"), (0, u "Z"), (8, u "LOG2_BYTE_BIT_SIZE"), (4, u "LOG2_ARRAY_INT_INDEX_SCALE"), (54, u "JLA"), (0, u "Ljdk/internal/access/JavaLangAccess;"), (11, u "LOG2_ARRAY_BOOLEAN_INDEX_SCALE"), (9, u "LOG2_ARRAY_BYTE_INDEX_SCALE"), (5, u "LOG2_ARRAY_CHAR_INDEX_SCALE"), (5, u "LOG2_ARRAY_SHORT_INDEX_SCALE"), (18, u "LOG2_ARRAY_FLOAT_INDEX_SCALE"), (24, u "LOG2_ARRAY_DOUBLE_INDEX_SCALE"), (89, u "T_BOOLEAN"), (2, u "T_CHAR"), (1, u "T_FLOAT"), (1, u "T_DOUBLE"), (1, u "T_BYTE"), (1, u "T_SHORT"), (1, u "T_INT"), (1, u "T_LONG"), (1, u "SOFT_MAX_ARRAY_LENGTH")] 83

def k15m0 : Method := { name := "<init>", desc := "()V", sig := { parameters := [], returnType := none }, accessFlags := 2, code := none }
/-- jdk/internal/util/ArraysSupport -/
def k15 : Class := { plain "jdk/internal/util/ArraysSupport" (some 0) with
  accessFlags := 33
  interfaces := #[]
  cf := some (fileOf pool15 21 #[] #[{ accessFlags := 2, nameIndex := 9, descriptorIndex := 19, attributes := #[] }] 33 16 #[] #[{ accessFlags := 24, nameIndex := 28, descriptorIndex := 29, attributes := #[] }, { accessFlags := 26, nameIndex := 38, descriptorIndex := 39, attributes := #[] }, { accessFlags := 25, nameIndex := 121, descriptorIndex := 25, attributes := #[] }, { accessFlags := 25, nameIndex := 131, descriptorIndex := 25, attributes := #[] }, { accessFlags := 25, nameIndex := 137, descriptorIndex := 25, attributes := #[] }, { accessFlags := 25, nameIndex := 143, descriptorIndex := 25, attributes := #[] }, { accessFlags := 25, nameIndex := 53, descriptorIndex := 25, attributes := #[] }, { accessFlags := 25, nameIndex := 24, descriptorIndex := 25, attributes := #[] }, { accessFlags := 25, nameIndex := 162, descriptorIndex := 25, attributes := #[] }, { accessFlags := 25, nameIndex := 187, descriptorIndex := 25, attributes := #[] }, { accessFlags := 26, nameIndex := 48, descriptorIndex := 25, attributes := #[] }, { accessFlags := 25, nameIndex := 277, descriptorIndex := 25, attributes := #[] }, { accessFlags := 25, nameIndex := 280, descriptorIndex := 25, attributes := #[] }, { accessFlags := 25, nameIndex := 282, descriptorIndex := 25, attributes := #[] }, { accessFlags := 25, nameIndex := 284, descriptorIndex := 25, attributes := #[] }, { accessFlags := 25, nameIndex := 286, descriptorIndex := 25, attributes := #[] }, { accessFlags := 25, nameIndex := 288, descriptorIndex := 25, attributes := #[] }, { accessFlags := 25, nameIndex := 290, descriptorIndex := 25, attributes := #[] }, { accessFlags := 25, nameIndex := 292, descriptorIndex := 25, attributes := #[] }, { accessFlags := 26, nameIndex := 108, descriptorIndex := 109, attributes := #[] }, { accessFlags := 25, nameIndex := 294, descriptorIndex := 25, attributes := #[] }])
  fields := #[{ name := "U", type := (.object "jdk/internal/misc/Unsafe"), accessFlags := 24, slot := 0, constantValue := 0 }, { name := "BIG_ENDIAN", type := .boolean, accessFlags := 26, slot := 1, constantValue := 0 }, { name := "LOG2_ARRAY_BOOLEAN_INDEX_SCALE", type := .int, accessFlags := 25, slot := 2, constantValue := 0 }, { name := "LOG2_ARRAY_BYTE_INDEX_SCALE", type := .int, accessFlags := 25, slot := 3, constantValue := 0 }, { name := "LOG2_ARRAY_CHAR_INDEX_SCALE", type := .int, accessFlags := 25, slot := 4, constantValue := 0 }, { name := "LOG2_ARRAY_SHORT_INDEX_SCALE", type := .int, accessFlags := 25, slot := 5, constantValue := 0 }, { name := "LOG2_ARRAY_INT_INDEX_SCALE", type := .int, accessFlags := 25, slot := 6, constantValue := 0 }, { name := "LOG2_ARRAY_LONG_INDEX_SCALE", type := .int, accessFlags := 25, slot := 7, constantValue := 0 }, { name := "LOG2_ARRAY_FLOAT_INDEX_SCALE", type := .int, accessFlags := 25, slot := 8, constantValue := 0 }, { name := "LOG2_ARRAY_DOUBLE_INDEX_SCALE", type := .int, accessFlags := 25, slot := 9, constantValue := 0 }, { name := "LOG2_BYTE_BIT_SIZE", type := .int, accessFlags := 26, slot := 10, constantValue := 0 }, { name := "T_BOOLEAN", type := .int, accessFlags := 25, slot := 11, constantValue := 0 }, { name := "T_CHAR", type := .int, accessFlags := 25, slot := 12, constantValue := 0 }, { name := "T_FLOAT", type := .int, accessFlags := 25, slot := 13, constantValue := 0 }, { name := "T_DOUBLE", type := .int, accessFlags := 25, slot := 14, constantValue := 0 }, { name := "T_BYTE", type := .int, accessFlags := 25, slot := 15, constantValue := 0 }, { name := "T_SHORT", type := .int, accessFlags := 25, slot := 16, constantValue := 0 }, { name := "T_INT", type := .int, accessFlags := 25, slot := 17, constantValue := 0 }, { name := "T_LONG", type := .int, accessFlags := 25, slot := 18, constantValue := 0 }, { name := "JLA", type := (.object "jdk/internal/access/JavaLangAccess"), accessFlags := 26, slot := 19, constantValue := 0 }, { name := "SOFT_MAX_ARRAY_LENGTH", type := .int, accessFlags := 25, slot := 20, constantValue := 0 }]
  methods := #[k15m0]
  instanceTypes := #[]
  staticTypes := #[(.object "jdk/internal/misc/Unsafe"), .boolean, .int, .int, .int, .int, .int, .int, .int, .int, .int, .int, .int, .int, .int, .int, .int, .int, .int, (.object "jdk/internal/access/JavaLangAccess"), .int]
  resolved := Array.replicate 378 none
  statics := none }

def pool16 : Array CpInfo := pool [(1, u "java/lang/Cloneable"), (0, .class_ 1), (0, u "java/lang/Object"), (0, .class_ 3)] 3

/-- java/lang/Cloneable -/
def k16 : Class := { plain "java/lang/Cloneable" (some 0) with
  accessFlags := 1537
  interfaces := #[]
  cf := some (fileOf pool16 2 #[] #[] 1537 4 #[] #[])
  fields := #[]
  methods := #[]
  instanceTypes := #[]
  staticTypes := #[]
  resolved := Array.replicate 8 none
  statics := none }

/-- the primitive byte -/
def k17 : Class := { plain "byte" none with kind := .primitive 'B', accessFlags := 0x411 }
/-- [B -/
def k18 : Class := { plain "[B" (some 0) with kind := .array 17 .byte, interfaces := #[16, 2], accessFlags := 1041 }

/-- the primitive char -/
def k19 : Class := { plain "char" none with kind := .primitive 'C', accessFlags := 0x411 }
/-- [C -/
def k20 : Class := { plain "[C" (some 0) with kind := .array 19 .char, interfaces := #[16, 2], accessFlags := 1041 }

/-- the primitive int -/
def k21 : Class := { plain "int" none with kind := .primitive 'I', accessFlags := 0x411 }
/-- [I -/
def k22 : Class := { plain "[I" (some 0) with kind := .array 21 .int, interfaces := #[16, 2], accessFlags := 1041 }

/-- [Ljava/lang/Integer; -/
def k23 : Class := { plain "[Ljava/lang/Integer;" (some 0) with kind := .array 11 (.object "java/lang/Integer"), interfaces := #[16, 2], accessFlags := 1041 }

def heap : Heap := #[{ cls := 7, slots := #[.long 0, .int 1, .null, .int 0, .null, .int 0, .int 0], vm := .statics 7 },
  { cls := 12, slots := #[.int 0, .int 127, .ref 3, .null, .int 0], vm := .statics 12 },
  { cls := 14, slots := #[.null, .null, .null], vm := .statics 14 },
  { cls := 23, slots := #[.ref 4, .ref 5, .ref 6, .ref 7, .ref 8, .ref 9, .ref 10, .ref 11, .ref 12, .ref 13, .ref 14, .ref 15, .ref 16, .ref 17, .ref 18, .ref 19, .ref 20, .ref 21, .ref 22, .ref 23, .ref 24, .ref 25, .ref 26, .ref 27, .ref 28, .ref 29, .ref 30, .ref 31, .ref 32, .ref 33, .ref 34, .ref 35, .ref 36, .ref 37, .ref 38, .ref 39, .ref 40, .ref 41, .ref 42, .ref 43, .ref 44, .ref 45, .ref 46, .ref 47, .ref 48, .ref 49, .ref 50, .ref 51, .ref 52, .ref 53, .ref 54, .ref 55, .ref 56, .ref 57, .ref 58, .ref 59, .ref 60, .ref 61, .ref 62, .ref 63, .ref 64, .ref 65, .ref 66, .ref 67, .ref 68, .ref 69, .ref 70, .ref 71, .ref 72, .ref 73, .ref 74, .ref 75, .ref 76, .ref 77, .ref 78, .ref 79, .ref 80, .ref 81, .ref 82, .ref 83, .ref 84, .ref 85, .ref 86, .ref 87, .ref 88, .ref 89, .ref 90, .ref 91, .ref 92, .ref 93, .ref 94, .ref 95, .ref 96, .ref 97, .ref 98, .ref 99, .ref 100, .ref 101, .ref 102, .ref 103, .ref 104, .ref 105, .ref 106, .ref 107, .ref 108, .ref 109, .ref 110, .ref 111, .ref 112, .ref 113, .ref 114, .ref 115, .ref 116, .ref 117, .ref 118, .ref 119, .ref 120, .ref 121, .ref 122, .ref 123, .ref 124, .ref 125, .ref 126, .ref 127, .ref 128, .ref 129, .ref 130, .ref 131, .ref 132, .ref 133, .ref 134, .ref 135, .ref 136, .ref 137, .ref 138, .ref 139, .ref 140, .ref 141, .ref 142, .ref 143, .ref 144, .ref 145, .ref 146, .ref 147, .ref 148, .ref 149, .ref 150, .ref 151, .ref 152, .ref 153, .ref 154, .ref 155, .ref 156, .ref 157, .ref 158, .ref 159, .ref 160, .ref 161, .ref 162, .ref 163, .ref 164, .ref 165, .ref 166, .ref 167, .ref 168, .ref 169, .ref 170, .ref 171, .ref 172, .ref 173, .ref 174, .ref 175, .ref 176, .ref 177, .ref 178, .ref 179, .ref 180, .ref 181, .ref 182, .ref 183, .ref 184, .ref 185, .ref 186, .ref 187, .ref 188, .ref 189, .ref 190, .ref 191, .ref 192, .ref 193, .ref 194, .ref 195, .ref 196, .ref 197, .ref 198, .ref 199, .ref 200, .ref 201, .ref 202, .ref 203, .ref 204, .ref 205, .ref 206, .ref 207, .ref 208, .ref 209, .ref 210, .ref 211, .ref 212, .ref 213, .ref 214, .ref 215, .ref 216, .ref 217, .ref 218, .ref 219, .ref 220, .ref 221, .ref 222, .ref 223, .ref 224, .ref 225, .ref 226, .ref 227, .ref 228, .ref 229, .ref 230, .ref 231, .ref 232, .ref 233, .ref 234, .ref 235, .ref 236, .ref 237, .ref 238, .ref 239, .ref 240, .ref 241, .ref 242, .ref 243, .ref 244, .ref 245, .ref 246, .ref 247, .ref 248, .ref 249, .ref 250, .ref 251, .ref 252, .ref 253, .ref 254, .ref 255, .ref 256, .ref 257, .ref 258, .ref 259], vm := .none },
  { cls := 11, slots := #[.int (-128)], vm := .none },
  { cls := 11, slots := #[.int (-127)], vm := .none },
  { cls := 11, slots := #[.int (-126)], vm := .none },
  { cls := 11, slots := #[.int (-125)], vm := .none },
  { cls := 11, slots := #[.int (-124)], vm := .none },
  { cls := 11, slots := #[.int (-123)], vm := .none },
  { cls := 11, slots := #[.int (-122)], vm := .none },
  { cls := 11, slots := #[.int (-121)], vm := .none },
  { cls := 11, slots := #[.int (-120)], vm := .none },
  { cls := 11, slots := #[.int (-119)], vm := .none },
  { cls := 11, slots := #[.int (-118)], vm := .none },
  { cls := 11, slots := #[.int (-117)], vm := .none },
  { cls := 11, slots := #[.int (-116)], vm := .none },
  { cls := 11, slots := #[.int (-115)], vm := .none },
  { cls := 11, slots := #[.int (-114)], vm := .none },
  { cls := 11, slots := #[.int (-113)], vm := .none },
  { cls := 11, slots := #[.int (-112)], vm := .none },
  { cls := 11, slots := #[.int (-111)], vm := .none },
  { cls := 11, slots := #[.int (-110)], vm := .none },
  { cls := 11, slots := #[.int (-109)], vm := .none },
  { cls := 11, slots := #[.int (-108)], vm := .none },
  { cls := 11, slots := #[.int (-107)], vm := .none },
  { cls := 11, slots := #[.int (-106)], vm := .none },
  { cls := 11, slots := #[.int (-105)], vm := .none },
  { cls := 11, slots := #[.int (-104)], vm := .none },
  { cls := 11, slots := #[.int (-103)], vm := .none },
  { cls := 11, slots := #[.int (-102)], vm := .none },
  { cls := 11, slots := #[.int (-101)], vm := .none },
  { cls := 11, slots := #[.int (-100)], vm := .none },
  { cls := 11, slots := #[.int (-99)], vm := .none },
  { cls := 11, slots := #[.int (-98)], vm := .none },
  { cls := 11, slots := #[.int (-97)], vm := .none },
  { cls := 11, slots := #[.int (-96)], vm := .none },
  { cls := 11, slots := #[.int (-95)], vm := .none },
  { cls := 11, slots := #[.int (-94)], vm := .none },
  { cls := 11, slots := #[.int (-93)], vm := .none },
  { cls := 11, slots := #[.int (-92)], vm := .none },
  { cls := 11, slots := #[.int (-91)], vm := .none },
  { cls := 11, slots := #[.int (-90)], vm := .none },
  { cls := 11, slots := #[.int (-89)], vm := .none },
  { cls := 11, slots := #[.int (-88)], vm := .none },
  { cls := 11, slots := #[.int (-87)], vm := .none },
  { cls := 11, slots := #[.int (-86)], vm := .none },
  { cls := 11, slots := #[.int (-85)], vm := .none },
  { cls := 11, slots := #[.int (-84)], vm := .none },
  { cls := 11, slots := #[.int (-83)], vm := .none },
  { cls := 11, slots := #[.int (-82)], vm := .none },
  { cls := 11, slots := #[.int (-81)], vm := .none },
  { cls := 11, slots := #[.int (-80)], vm := .none },
  { cls := 11, slots := #[.int (-79)], vm := .none },
  { cls := 11, slots := #[.int (-78)], vm := .none },
  { cls := 11, slots := #[.int (-77)], vm := .none },
  { cls := 11, slots := #[.int (-76)], vm := .none },
  { cls := 11, slots := #[.int (-75)], vm := .none },
  { cls := 11, slots := #[.int (-74)], vm := .none },
  { cls := 11, slots := #[.int (-73)], vm := .none },
  { cls := 11, slots := #[.int (-72)], vm := .none },
  { cls := 11, slots := #[.int (-71)], vm := .none },
  { cls := 11, slots := #[.int (-70)], vm := .none },
  { cls := 11, slots := #[.int (-69)], vm := .none },
  { cls := 11, slots := #[.int (-68)], vm := .none },
  { cls := 11, slots := #[.int (-67)], vm := .none },
  { cls := 11, slots := #[.int (-66)], vm := .none },
  { cls := 11, slots := #[.int (-65)], vm := .none },
  { cls := 11, slots := #[.int (-64)], vm := .none },
  { cls := 11, slots := #[.int (-63)], vm := .none },
  { cls := 11, slots := #[.int (-62)], vm := .none },
  { cls := 11, slots := #[.int (-61)], vm := .none },
  { cls := 11, slots := #[.int (-60)], vm := .none },
  { cls := 11, slots := #[.int (-59)], vm := .none },
  { cls := 11, slots := #[.int (-58)], vm := .none },
  { cls := 11, slots := #[.int (-57)], vm := .none },
  { cls := 11, slots := #[.int (-56)], vm := .none },
  { cls := 11, slots := #[.int (-55)], vm := .none },
  { cls := 11, slots := #[.int (-54)], vm := .none },
  { cls := 11, slots := #[.int (-53)], vm := .none },
  { cls := 11, slots := #[.int (-52)], vm := .none },
  { cls := 11, slots := #[.int (-51)], vm := .none },
  { cls := 11, slots := #[.int (-50)], vm := .none },
  { cls := 11, slots := #[.int (-49)], vm := .none },
  { cls := 11, slots := #[.int (-48)], vm := .none },
  { cls := 11, slots := #[.int (-47)], vm := .none },
  { cls := 11, slots := #[.int (-46)], vm := .none },
  { cls := 11, slots := #[.int (-45)], vm := .none },
  { cls := 11, slots := #[.int (-44)], vm := .none },
  { cls := 11, slots := #[.int (-43)], vm := .none },
  { cls := 11, slots := #[.int (-42)], vm := .none },
  { cls := 11, slots := #[.int (-41)], vm := .none },
  { cls := 11, slots := #[.int (-40)], vm := .none },
  { cls := 11, slots := #[.int (-39)], vm := .none },
  { cls := 11, slots := #[.int (-38)], vm := .none },
  { cls := 11, slots := #[.int (-37)], vm := .none },
  { cls := 11, slots := #[.int (-36)], vm := .none },
  { cls := 11, slots := #[.int (-35)], vm := .none },
  { cls := 11, slots := #[.int (-34)], vm := .none },
  { cls := 11, slots := #[.int (-33)], vm := .none },
  { cls := 11, slots := #[.int (-32)], vm := .none },
  { cls := 11, slots := #[.int (-31)], vm := .none },
  { cls := 11, slots := #[.int (-30)], vm := .none },
  { cls := 11, slots := #[.int (-29)], vm := .none },
  { cls := 11, slots := #[.int (-28)], vm := .none },
  { cls := 11, slots := #[.int (-27)], vm := .none },
  { cls := 11, slots := #[.int (-26)], vm := .none },
  { cls := 11, slots := #[.int (-25)], vm := .none },
  { cls := 11, slots := #[.int (-24)], vm := .none },
  { cls := 11, slots := #[.int (-23)], vm := .none },
  { cls := 11, slots := #[.int (-22)], vm := .none },
  { cls := 11, slots := #[.int (-21)], vm := .none },
  { cls := 11, slots := #[.int (-20)], vm := .none },
  { cls := 11, slots := #[.int (-19)], vm := .none },
  { cls := 11, slots := #[.int (-18)], vm := .none },
  { cls := 11, slots := #[.int (-17)], vm := .none },
  { cls := 11, slots := #[.int (-16)], vm := .none },
  { cls := 11, slots := #[.int (-15)], vm := .none },
  { cls := 11, slots := #[.int (-14)], vm := .none },
  { cls := 11, slots := #[.int (-13)], vm := .none },
  { cls := 11, slots := #[.int (-12)], vm := .none },
  { cls := 11, slots := #[.int (-11)], vm := .none },
  { cls := 11, slots := #[.int (-10)], vm := .none },
  { cls := 11, slots := #[.int (-9)], vm := .none },
  { cls := 11, slots := #[.int (-8)], vm := .none },
  { cls := 11, slots := #[.int (-7)], vm := .none },
  { cls := 11, slots := #[.int (-6)], vm := .none },
  { cls := 11, slots := #[.int (-5)], vm := .none },
  { cls := 11, slots := #[.int (-4)], vm := .none },
  { cls := 11, slots := #[.int (-3)], vm := .none },
  { cls := 11, slots := #[.int (-2)], vm := .none },
  { cls := 11, slots := #[.int (-1)], vm := .none },
  { cls := 11, slots := #[.int (0)], vm := .none },
  { cls := 11, slots := #[.int (1)], vm := .none },
  { cls := 11, slots := #[.int (2)], vm := .none },
  { cls := 11, slots := #[.int (3)], vm := .none },
  { cls := 11, slots := #[.int (4)], vm := .none },
  { cls := 11, slots := #[.int (5)], vm := .none },
  { cls := 11, slots := #[.int (6)], vm := .none },
  { cls := 11, slots := #[.int (7)], vm := .none },
  { cls := 11, slots := #[.int (8)], vm := .none },
  { cls := 11, slots := #[.int (9)], vm := .none },
  { cls := 11, slots := #[.int (10)], vm := .none },
  { cls := 11, slots := #[.int (11)], vm := .none },
  { cls := 11, slots := #[.int (12)], vm := .none },
  { cls := 11, slots := #[.int (13)], vm := .none },
  { cls := 11, slots := #[.int (14)], vm := .none },
  { cls := 11, slots := #[.int (15)], vm := .none },
  { cls := 11, slots := #[.int (16)], vm := .none },
  { cls := 11, slots := #[.int (17)], vm := .none },
  { cls := 11, slots := #[.int (18)], vm := .none },
  { cls := 11, slots := #[.int (19)], vm := .none },
  { cls := 11, slots := #[.int (20)], vm := .none },
  { cls := 11, slots := #[.int (21)], vm := .none },
  { cls := 11, slots := #[.int (22)], vm := .none },
  { cls := 11, slots := #[.int (23)], vm := .none },
  { cls := 11, slots := #[.int (24)], vm := .none },
  { cls := 11, slots := #[.int (25)], vm := .none },
  { cls := 11, slots := #[.int (26)], vm := .none },
  { cls := 11, slots := #[.int (27)], vm := .none },
  { cls := 11, slots := #[.int (28)], vm := .none },
  { cls := 11, slots := #[.int (29)], vm := .none },
  { cls := 11, slots := #[.int (30)], vm := .none },
  { cls := 11, slots := #[.int (31)], vm := .none },
  { cls := 11, slots := #[.int (32)], vm := .none },
  { cls := 11, slots := #[.int (33)], vm := .none },
  { cls := 11, slots := #[.int (34)], vm := .none },
  { cls := 11, slots := #[.int (35)], vm := .none },
  { cls := 11, slots := #[.int (36)], vm := .none },
  { cls := 11, slots := #[.int (37)], vm := .none },
  { cls := 11, slots := #[.int (38)], vm := .none },
  { cls := 11, slots := #[.int (39)], vm := .none },
  { cls := 11, slots := #[.int (40)], vm := .none },
  { cls := 11, slots := #[.int (41)], vm := .none },
  { cls := 11, slots := #[.int (42)], vm := .none },
  { cls := 11, slots := #[.int (43)], vm := .none },
  { cls := 11, slots := #[.int (44)], vm := .none },
  { cls := 11, slots := #[.int (45)], vm := .none },
  { cls := 11, slots := #[.int (46)], vm := .none },
  { cls := 11, slots := #[.int (47)], vm := .none },
  { cls := 11, slots := #[.int (48)], vm := .none },
  { cls := 11, slots := #[.int (49)], vm := .none },
  { cls := 11, slots := #[.int (50)], vm := .none },
  { cls := 11, slots := #[.int (51)], vm := .none },
  { cls := 11, slots := #[.int (52)], vm := .none },
  { cls := 11, slots := #[.int (53)], vm := .none },
  { cls := 11, slots := #[.int (54)], vm := .none },
  { cls := 11, slots := #[.int (55)], vm := .none },
  { cls := 11, slots := #[.int (56)], vm := .none },
  { cls := 11, slots := #[.int (57)], vm := .none },
  { cls := 11, slots := #[.int (58)], vm := .none },
  { cls := 11, slots := #[.int (59)], vm := .none },
  { cls := 11, slots := #[.int (60)], vm := .none },
  { cls := 11, slots := #[.int (61)], vm := .none },
  { cls := 11, slots := #[.int (62)], vm := .none },
  { cls := 11, slots := #[.int (63)], vm := .none },
  { cls := 11, slots := #[.int (64)], vm := .none },
  { cls := 11, slots := #[.int (65)], vm := .none },
  { cls := 11, slots := #[.int (66)], vm := .none },
  { cls := 11, slots := #[.int (67)], vm := .none },
  { cls := 11, slots := #[.int (68)], vm := .none },
  { cls := 11, slots := #[.int (69)], vm := .none },
  { cls := 11, slots := #[.int (70)], vm := .none },
  { cls := 11, slots := #[.int (71)], vm := .none },
  { cls := 11, slots := #[.int (72)], vm := .none },
  { cls := 11, slots := #[.int (73)], vm := .none },
  { cls := 11, slots := #[.int (74)], vm := .none },
  { cls := 11, slots := #[.int (75)], vm := .none },
  { cls := 11, slots := #[.int (76)], vm := .none },
  { cls := 11, slots := #[.int (77)], vm := .none },
  { cls := 11, slots := #[.int (78)], vm := .none },
  { cls := 11, slots := #[.int (79)], vm := .none },
  { cls := 11, slots := #[.int (80)], vm := .none },
  { cls := 11, slots := #[.int (81)], vm := .none },
  { cls := 11, slots := #[.int (82)], vm := .none },
  { cls := 11, slots := #[.int (83)], vm := .none },
  { cls := 11, slots := #[.int (84)], vm := .none },
  { cls := 11, slots := #[.int (85)], vm := .none },
  { cls := 11, slots := #[.int (86)], vm := .none },
  { cls := 11, slots := #[.int (87)], vm := .none },
  { cls := 11, slots := #[.int (88)], vm := .none },
  { cls := 11, slots := #[.int (89)], vm := .none },
  { cls := 11, slots := #[.int (90)], vm := .none },
  { cls := 11, slots := #[.int (91)], vm := .none },
  { cls := 11, slots := #[.int (92)], vm := .none },
  { cls := 11, slots := #[.int (93)], vm := .none },
  { cls := 11, slots := #[.int (94)], vm := .none },
  { cls := 11, slots := #[.int (95)], vm := .none },
  { cls := 11, slots := #[.int (96)], vm := .none },
  { cls := 11, slots := #[.int (97)], vm := .none },
  { cls := 11, slots := #[.int (98)], vm := .none },
  { cls := 11, slots := #[.int (99)], vm := .none },
  { cls := 11, slots := #[.int (100)], vm := .none },
  { cls := 11, slots := #[.int (101)], vm := .none },
  { cls := 11, slots := #[.int (102)], vm := .none },
  { cls := 11, slots := #[.int (103)], vm := .none },
  { cls := 11, slots := #[.int (104)], vm := .none },
  { cls := 11, slots := #[.int (105)], vm := .none },
  { cls := 11, slots := #[.int (106)], vm := .none },
  { cls := 11, slots := #[.int (107)], vm := .none },
  { cls := 11, slots := #[.int (108)], vm := .none },
  { cls := 11, slots := #[.int (109)], vm := .none },
  { cls := 11, slots := #[.int (110)], vm := .none },
  { cls := 11, slots := #[.int (111)], vm := .none },
  { cls := 11, slots := #[.int (112)], vm := .none },
  { cls := 11, slots := #[.int (113)], vm := .none },
  { cls := 11, slots := #[.int (114)], vm := .none },
  { cls := 11, slots := #[.int (115)], vm := .none },
  { cls := 11, slots := #[.int (116)], vm := .none },
  { cls := 11, slots := #[.int (117)], vm := .none },
  { cls := 11, slots := #[.int (118)], vm := .none },
  { cls := 11, slots := #[.int (119)], vm := .none },
  { cls := 11, slots := #[.int (120)], vm := .none },
  { cls := 11, slots := #[.int (121)], vm := .none },
  { cls := 11, slots := #[.int (122)], vm := .none },
  { cls := 11, slots := #[.int (123)], vm := .none },
  { cls := 11, slots := #[.int (124)], vm := .none },
  { cls := 11, slots := #[.int (125)], vm := .none },
  { cls := 11, slots := #[.int (126)], vm := .none },
  { cls := 11, slots := #[.int (127)], vm := .none }]
def classes : Array Class := #[k0, k1, k2, k3, k4, k5, k6, k7, k8, k9, k10, k11, k12, k13, k14, k15, k16, k17, k18, k19, k20, k21, k22, k23]
def interned : List (Array UInt16 × Addr) := []
def slotsUsed : Nat := 527
def theMethod : MethodId := ⟨1, 1⟩
def args0 : Array Value := #[.int 0, .int 7, .int 9]
def aboutOver (below : List Frame) : State where
  vm := { classes := classes, interned := interned.toArray }
  heap := heap
  slotsUsed := slotsUsed
  threads := #[{ frames := .invoking theMethod args0 :: below }]
def below0 : List Frame := [.native { method := ⟨0, 0⟩, args := #[] }]
def about1 : State := aboutOver below0
def p0 : Program := .bare "" "" ""
def e0 : Env := launch0.env 0 0 0
theorem w_frames : about1.frames = Frame.invoking theMethod args0 :: below0 := rfl
set_option maxRecDepth 65536 in
theorem w_args : argsFit about1.vm theMethod args0 = true := by decide +kernel
set_option maxRecDepth 65536 in
theorem w_heap : heapFits about1 = true := by decide +kernel
set_option maxRecDepth 65536 in
theorem w_runnable : about1.curStatus? = some .runnable := by decide +kernel
set_option maxRecDepth 65536 in
theorem w_alone : about1.alone = true := by decide +kernel
set_option maxRecDepth 65536 in
theorem w_named : about1.methodNamed? x = some theMethod := by decide +kernel
set_option maxRecDepth 65536 in
theorem w_hears : about1.hears theMethod below0 = true := by decide +kernel
set_option maxRecDepth 65536 in
theorem w_ripe : about1.ripe theMethod args0 below0 = true := by decide +kernel
theorem w_running : about1.status = .running := rfl
set_option maxRecDepth 65536 in
theorem w_room : about1.hasRoom e0.platform room_1 = true :=
  launch0.hasRoom_least _ room_1 (by decide +kernel) (by decide +kernel) (by decide +kernel) (by decide +kernel) (by decide +kernel) (by decide +kernel)
theorem allAtoms_all (ts : List Jvm.Cond) (a : Array Jvm.Value) (st : Jvm.State) : (allAtoms ts).before a st = ts.all (fun c => c.before a st) := by
  induction ts with
  | nil => rfl
  | cons c t ih =>
    show (Jvm.Cond.and c (allAtoms t)).before a st = _
    rw [Jvm.Cond.before_and, ih, List.all_cons]
def words1 : List Jvm.Cond := Jvm.Cond.code x code maxLocals ret :: tables_1
/-- a 'code' word, met by the world's own term for the bytes: nothing is compared byte by byte -/
theorem code_word {y : MethodName} {bytes : ByteArray} {mx : Nat} {rt : Option FieldType} {a : Array Value} {s : State} {m : MethodId} {meth : Method} {c : Code} (h1 : s.methodNamed? y = some m) (h2 : s.vm.method? m = some meth) (h3 : meth.code = some c) (h4 : c.code = bytes)
    (h5 : (c.maxLocals == mx && c.exceptionTable.isEmpty && decide (c.maxStack ≤ mostOperands) && decide (meth.sig.returnType = rt) && !meth.locks && decide (parseMethodDescriptor y.desc = some meth.sig)) = true) : (Jvm.Cond.code y bytes mx rt).before a s = true := by
  simp only [Bool.and_eq_true, beq_iff_eq, Bool.not_eq_true', decide_eq_true_eq] at h5
  obtain ⟨⟨⟨⟨⟨g1, g2⟩, g3⟩, g4⟩, g5⟩, g6⟩ := h5
  simp [Cond.before, Cond.holds, Cond.value, h1, h2, h3, h4, g1, g2, g3, g4, g5, g6]
def isCode : Jvm.Cond → Bool
  | .code _ _ _ _ => true
  | _ => false
theorem all_split {L : List Jvm.Cond} {P : Jvm.Cond → Bool} (h1 : L.all (fun c => isCode c || P c) = true) (h2 : ∀ c ∈ L.filter isCode, P c = true) : L.all P = true := by
  refine List.all_eq_true.mpr fun c hc => ?_
  have h := List.all_eq_true.mp h1 c hc
  rcases Bool.eq_false_or_eq_true (isCode c) with hi | hi
  · exact h2 c (List.mem_filter.mpr ⟨hc, hi⟩)
  · simpa [hi] using h
set_option maxRecDepth 65536 in
theorem w_c0 : (Jvm.Cond.code x code maxLocals ret).before args0 about1 = true := code_word (m := ⟨1, 1⟩) (meth := k1m1) (c := k1c1) (by decide +kernel) rfl rfl rfl (by decide +kernel)
set_option maxRecDepth 65536 in
theorem w_c1 : (Jvm.Cond.code ({ cls := "java/lang/String", name := "<init>", desc := "([C)V" } : Jvm.MethodName) jdk_42_method_3_code (2 : Nat) (Option.none : Option Jvm.ClassFile.FieldType)).before args0 about1 = true := code_word (m := ⟨7, 1⟩) (meth := k7m1) (c := k7c1) (by decide +kernel) rfl rfl rfl (by decide +kernel)
set_option maxRecDepth 65536 in
theorem w_c2 : (Jvm.Cond.code ({ cls := "java/lang/String", name := "<init>", desc := "([CIILjava/lang/Void;)V" } : Jvm.MethodName) jdk_42_method_149_code (6 : Nat) (Option.none : Option Jvm.ClassFile.FieldType)).before args0 about1 = true := code_word (m := ⟨7, 2⟩) (meth := k7m2) (c := k7c2) (by decide +kernel) rfl rfl rfl (by decide +kernel)
set_option maxRecDepth 65536 in
theorem w_c3 : (Jvm.Cond.code ({ cls := "java/lang/Object", name := "<init>", desc := "()V" } : Jvm.MethodName) object_method_1_code (1 : Nat) (Option.none : Option Jvm.ClassFile.FieldType)).before args0 about1 = true := code_word (m := ⟨0, 0⟩) (meth := k0m0) (c := k0c0) (by decide +kernel) rfl rfl rfl (by decide +kernel)
set_option maxRecDepth 65536 in
theorem w_c4 : (Jvm.Cond.code ({ cls := "java/lang/StringUTF16", name := "compress", desc := "([CII)[B" } : Jvm.MethodName) jdk_52_method_16_code (6 : Nat) (Option.some (Jvm.ClassFile.FieldType.array Jvm.ClassFile.FieldType.byte))).before args0 about1 = true := code_word (m := ⟨8, 2⟩) (meth := k8m2) (c := k8c2) (by decide +kernel) rfl rfl rfl (by decide +kernel)
set_option maxRecDepth 65536 in
theorem w_c5 : (Jvm.Cond.code ({ cls := "java/lang/StringUTF16", name := "compress", desc := "([CI[BII)I" } : Jvm.MethodName) jdk_52_method_21_code (7 : Nat) (Option.some Jvm.ClassFile.FieldType.int)).before args0 about1 = true := code_word (m := ⟨8, 3⟩) (meth := k8m3) (c := k8c3) (by decide +kernel) rfl rfl rfl (by decide +kernel)
set_option maxRecDepth 65536 in
theorem w_c6 : (Jvm.Cond.code ({ cls := "java/lang/StringUTF16", name := "coderFromArrayLen", desc := "([BI)B" } : Jvm.MethodName) jdk_52_method_15_code (2 : Nat) (Option.some Jvm.ClassFile.FieldType.byte)).before args0 about1 = true := code_word (m := ⟨8, 1⟩) (meth := k8m1) (c := k8c1) (by decide +kernel) rfl rfl rfl (by decide +kernel)
set_option maxRecDepth 65536 in
theorem w_c7 : (Jvm.Cond.code ({ cls := "com/example/plain_mapper/plainmapper/BinaryKey", name := "of", desc := "(Ljava/lang/Object;)Ljava/lang/Object;" } : Jvm.MethodName) prog_7_method_2_code (1 : Nat) (Option.some (Jvm.ClassFile.FieldType.object "java/lang/Object"))).before args0 about1 = true := code_word (m := ⟨9, 1⟩) (meth := k9m1) (c := k9c1) (by decide +kernel) rfl rfl rfl (by decide +kernel)
set_option maxRecDepth 65536 in
theorem w_c8 : (Jvm.Cond.code ({ cls := "com/example/plain_mapper/plainmapper/BinaryKey", name := "<init>", desc := "([B)V" } : Jvm.MethodName) prog_7_method_1_code (2 : Nat) (Option.none : Option Jvm.ClassFile.FieldType)).before args0 about1 = true := code_word (m := ⟨9, 0⟩) (meth := k9m0) (c := k9c0) (by decide +kernel) rfl rfl rfl (by decide +kernel)
set_option maxRecDepth 65536 in
theorem w_c9 : (Jvm.Cond.code ({ cls := "com/example/plain_mapper/plainmapper/BinaryKey", name := "value", desc := "(Ljava/lang/Object;)Ljava/lang/Object;" } : Jvm.MethodName) prog_7_method_3_code (1 : Nat) (Option.some (Jvm.ClassFile.FieldType.object "java/lang/Object"))).before args0 about1 = true := code_word (m := ⟨9, 2⟩) (meth := k9m2) (c := k9c2) (by decide +kernel) rfl rfl rfl (by decide +kernel)
set_option maxRecDepth 65536 in
theorem w_c10 : (Jvm.Cond.code ({ cls := "java/lang/Integer", name := "valueOf", desc := "(I)Ljava/lang/Integer;" } : Jvm.MethodName) jdk_33_method_22_code (1 : Nat) (Option.some (Jvm.ClassFile.FieldType.object "java/lang/Integer"))).before args0 about1 = true := code_word (m := ⟨11, 0⟩) (meth := k11m0) (c := k11c0) (by decide +kernel) rfl rfl rfl (by decide +kernel)
set_option maxRecDepth 65536 in
theorem w_c11 : (Jvm.Cond.code ({ cls := "java/lang/Integer", name := "<init>", desc := "(I)V" } : Jvm.MethodName) jdk_33_method_23_code (2 : Nat) (Option.none : Option Jvm.ClassFile.FieldType)).before args0 about1 = true := code_word (m := ⟨11, 1⟩) (meth := k11m1) (c := k11c1) (by decide +kernel) rfl rfl rfl (by decide +kernel)
set_option maxRecDepth 65536 in
theorem w_c12 : (Jvm.Cond.code ({ cls := "java/lang/Number", name := "<init>", desc := "()V" } : Jvm.MethodName) jdk_18_method_1_code (1 : Nat) (Option.none : Option Jvm.ClassFile.FieldType)).before args0 about1 = true := code_word (m := ⟨10, 0⟩) (meth := k10m0) (c := k10c0) (by decide +kernel) rfl rfl rfl (by decide +kernel)
def codes1 : List Jvm.Cond := [Jvm.Cond.code x code maxLocals ret, Jvm.Cond.code ({ cls := "java/lang/String", name := "<init>", desc := "([C)V" } : Jvm.MethodName) jdk_42_method_3_code (2 : Nat) (Option.none : Option Jvm.ClassFile.FieldType), Jvm.Cond.code ({ cls := "java/lang/String", name := "<init>", desc := "([CIILjava/lang/Void;)V" } : Jvm.MethodName) jdk_42_method_149_code (6 : Nat) (Option.none : Option Jvm.ClassFile.FieldType), Jvm.Cond.code ({ cls := "java/lang/Object", name := "<init>", desc := "()V" } : Jvm.MethodName) object_method_1_code (1 : Nat) (Option.none : Option Jvm.ClassFile.FieldType), Jvm.Cond.code ({ cls := "java/lang/StringUTF16", name := "compress", desc := "([CII)[B" } : Jvm.MethodName) jdk_52_method_16_code (6 : Nat) (Option.some (Jvm.ClassFile.FieldType.array Jvm.ClassFile.FieldType.byte)), Jvm.Cond.code ({ cls := "java/lang/StringUTF16", name := "compress", desc := "([CI[BII)I" } : Jvm.MethodName) jdk_52_method_21_code (7 : Nat) (Option.some Jvm.ClassFile.FieldType.int), Jvm.Cond.code ({ cls := "java/lang/StringUTF16", name := "coderFromArrayLen", desc := "([BI)B" } : Jvm.MethodName) jdk_52_method_15_code (2 : Nat) (Option.some Jvm.ClassFile.FieldType.byte), Jvm.Cond.code ({ cls := "com/example/plain_mapper/plainmapper/BinaryKey", name := "of", desc := "(Ljava/lang/Object;)Ljava/lang/Object;" } : Jvm.MethodName) prog_7_method_2_code (1 : Nat) (Option.some (Jvm.ClassFile.FieldType.object "java/lang/Object")), Jvm.Cond.code ({ cls := "com/example/plain_mapper/plainmapper/BinaryKey", name := "<init>", desc := "([B)V" } : Jvm.MethodName) prog_7_method_1_code (2 : Nat) (Option.none : Option Jvm.ClassFile.FieldType), Jvm.Cond.code ({ cls := "com/example/plain_mapper/plainmapper/BinaryKey", name := "value", desc := "(Ljava/lang/Object;)Ljava/lang/Object;" } : Jvm.MethodName) prog_7_method_3_code (1 : Nat) (Option.some (Jvm.ClassFile.FieldType.object "java/lang/Object")), Jvm.Cond.code ({ cls := "java/lang/Integer", name := "valueOf", desc := "(I)Ljava/lang/Integer;" } : Jvm.MethodName) jdk_33_method_22_code (1 : Nat) (Option.some (Jvm.ClassFile.FieldType.object "java/lang/Integer")), Jvm.Cond.code ({ cls := "java/lang/Integer", name := "<init>", desc := "(I)V" } : Jvm.MethodName) jdk_33_method_23_code (2 : Nat) (Option.none : Option Jvm.ClassFile.FieldType), Jvm.Cond.code ({ cls := "java/lang/Number", name := "<init>", desc := "()V" } : Jvm.MethodName) jdk_18_method_1_code (1 : Nat) (Option.none : Option Jvm.ClassFile.FieldType)]
set_option maxRecDepth 65536 in
theorem codes_eq : words1.filter isCode = codes1 := rfl
theorem w_codes : ∀ c ∈ words1.filter isCode, c.before args0 about1 = true := by
  rw [codes_eq]
  intro c hc
  simp only [codes1, List.mem_cons, List.not_mem_nil, or_false] at hc
  rcases hc with rfl | rfl | rfl | rfl | rfl | rfl | rfl | rfl | rfl | rfl | rfl | rfl | rfl
  · exact w_c0
  · exact w_c1
  · exact w_c2
  · exact w_c3
  · exact w_c4
  · exact w_c5
  · exact w_c6
  · exact w_c7
  · exact w_c8
  · exact w_c9
  · exact w_c10
  · exact w_c11
  · exact w_c12
set_option maxRecDepth 65536 in
theorem w_t1 : (words1.take 24).all (fun c => isCode c || c.before args0 about1) = true := by decide +kernel
set_option maxRecDepth 65536 in
theorem w_t2 : ((words1.drop 24).take 24).all (fun c => isCode c || c.before args0 about1) = true := by decide +kernel
set_option maxRecDepth 65536 in
theorem w_t3 : (((words1.drop 24).drop 24).take 24).all (fun c => isCode c || c.before args0 about1) = true := by decide +kernel
set_option maxRecDepth 65536 in
theorem w_t4 : (((words1.drop 24).drop 24).drop 24).all (fun c => isCode c || c.before args0 about1) = true := by decide +kernel
theorem w_tables : (allAtoms (Jvm.Cond.code x code maxLocals ret :: tables_1)).before args0 about1 = true := by
  rw [allAtoms_all]
  show words1.all (fun c => c.before args0 about1) = true
  refine all_split ?_ w_codes
  rw [← List.take_append_drop 24 words1, List.all_append, w_t1, ← List.take_append_drop 24 (words1.drop 24), List.all_append, w_t2, ← List.take_append_drop 24 ((words1.drop 24).drop 24), List.all_append, w_t3, w_t4]
  rfl
set_option maxRecDepth 65536 in
theorem w_rest : rest_1_c.before args0 about1 = true := by decide +kernel
set_option maxRecDepth 65536 in
theorem w_case : (Jvm.Cond.and given_1 narrow_1).before args0 about1 = true := by decide +kernel
theorem w_applies : (headSpec (Jvm.Cond.code x code maxLocals ret :: tables_1) room_1).applies x e0.platform about1 = true :=
  (Spec.applies_iff w_frames).mpr ⟨w_running, w_runnable, w_alone, w_named, w_hears, w_ripe, w_room, w_tables⟩
theorem atStart : AtStart classFile x code maxLocals ret World_1 tables_1 room_1 Calls_1 rest_1 Pre_1 launch0 p0 e0 about1 theMethod args0 below0 :=
  ⟨lists_1, trivial, launch0.admits_env _ _ _, launch0.least_env, fairChoices_fair.cas, fairChoices_fair.clock, w_frames, w_args, w_heap, w_applies, trivial, w_rest, w_case⟩
end start1
theorem witness_1 : WitnessClaimed_1 := ⟨start1.p0, start1.e0, start1.about1, start1.theMethod, start1.args0, start1.below0, start1.atStart⟩
end Jvm.Pilot.@@N@@
