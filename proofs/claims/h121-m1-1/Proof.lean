import JvmDerived
import JvmDerived.Pilot.@@N@@Statement
import JvmDerived.Pilot.@@N@@Code
set_option linter.unusedVariables false
set_option linter.unusedSimpArgs false
@@BLOCK:TracedD.lean.txt@@
namespace Jvm.RoadKit
open Sem ClassFile Op Lib Jvm.Stand Jvm.Free Jvm.LawKit
section New
variable {p : Program} {l : Launch} {e : Env} {R : Room} {s : State} {m : MethodId} {args : Array Value} {below : List Frame} {meth : Method} {c : Code} {T : State} {locs : List Loc} {cells slots : Nat}
theorem retI (X : Stand p l e R s m args below meth c T locs cells slots) (hx : p.tables.exec = Jvm.exec) {pc : Nat} {Ls : Array Slot} {z : Int32} {rest : List Value} (hret : meth.sig.returnType = some .int) (hd : decode c.code pc = .ok (.ireturn, 1)) {fs : List Frame}
    (hl : ∀ (f : JFrame) (acts : List Action), f.method = m → f.locked = none → f.entered = [] → (doReturn e (T.setTop f) acts (some (.int z))).1 = T.setFrames fs) : Steps p.tables e below (T.setTop (mkF m pc Ls (.int z :: rest))) (T.setFrames fs) := by
  have hm' : T.vm.method? m = some meth := X.method'
  have hn : narrow .int (.int z) = .int z := rfl
  show Steps p.tables e below (T.setTop { method := m, pc := pc, locals := Ls, stack := _ :: rest, locked := none }) _
  jvm_step X.here [X.here.top, hx, hd, hm', hret, hn]
  first | (intro acts; rw [hl _ acts rfl rfl rfl]) | rw [hl _ _ rfl rfl rfl]
  exact Steps.refl _
end New
end Jvm.RoadKit
namespace Jvm.Pilot.@@N@@
open Jvm Jvm.ClassFile Sem Op Lib Jvm.Free Jvm.Stand Jvm.LawKit Jvm.RoadKit Bundle Jvm.Pilot.@@N@@.Jvm.D
/-! OWN KIT: a walk as one forward chain. OwF: from frame f at T the run ends, and D says how. OwC: the setting of a body. OwCon: a body's contract. -/
section OwnKit
variable {p : Program} {l : Launch} {e : Env} {R : Room} {s : State} {m : MethodId} {args : Array Value} {below : List Frame} {meth : Method} {c : Code} {T : State} {locs : List Loc} {cells slots : Nat} {Z : State} {a0 : Array Value} {h : Heap}
variable {own nm : String} {bytes : ByteArray} {maxL : Nat} {ret : Option FieldType} {D : State → Outcome → Prop} {pc pc' : Nat} {Ls : Array Slot} {r : List Value}
def OwF (p : Program) (e : Env) (below : List Frame) (D : State → Outcome → Prop) (T : State) (f : JFrame) : Prop := ∃ t o, Steps p.tables e below (T.setTop f) t ∧ D t o
def OwC (p : Program) (Z s : State) (m : MethodId) (meth : Method) (c : Code) (own nm : String) (bytes : ByteArray) (maxL : Nat) (ret : Option FieldType) : Prop :=
  p.tables.exec = Jvm.exec ∧ c.code = bytes ∧ c.maxLocals = maxL ∧ s.vm.findClass own = some m.cls ∧ meth.name = nm ∧ meth.sig.returnType = ret ∧ meth.locks = false ∧ Z.Warmed39 s.vm
def OwD (s : State) (below : List Frame) (Q : Option Value → Heap → List Loc → Prop) (kc ks : Nat) (t : State) (o : Outcome) : Prop :=
  t.status = .running ∧ Ended t below o ∧ ∃ v L, o = .returned v ∧ Q v t.heap L ∧ FrameEnd s o t L kc ks
def OwCon (l : Launch) (y : MethodName) (bytes : ByteArray) (maxL : Nat) (ret : Option FieldType) (rm : Room) (Z : State) (as' : Array Value) (h : Heap) (Q : Option Value → Heap → List Loc → Prop) : Prop :=
  ∀ ws, MetFree l y (head1 (Jvm.Cond.code y bytes maxL ret :: ws) rm) (fun a U => a = as' ∧ Z.Warmed39 U.vm ∧ U.heap = h) (fun _ _ _ _ _ => True) (fun _ U o U' => ∃ v L, o = .returned v ∧ Q v U'.heap L ∧ FrameEnd U o U' L rm.cells rm.slots)
theorem OwF.st {T' : State} {f f' : JFrame} (h : ∀ t, Steps p.tables e below (T'.setTop f') t → Steps p.tables e below (T.setTop f) t) (k : OwF p e below D T' f') : OwF p e below D T f := by
  obtain ⟨t, o, q, d⟩ := k; exact ⟨t, o, h t q, d⟩
theorem OwCon.of {y : MethodName} {rm : Room} {as' : Array Value} {Q : Option Value → Heap → List Loc → Prop} (hpl : plainFor y = true) {Ls : Array Slot} (hent : ∀ m, entryFrame m as' maxL = mkF m 0 Ls [])
    (body : ∀ (p : Program) (e : Env) (s : State) (m : MethodId) (below : List Frame) (meth : Method) (c : Code) (s₁ : State), OwC p Z s m meth c y.cls y.name bytes maxL ret → Stand p l e rm s m as' below meth c s₁ [] 0 0 → s₁.heap = h → OwF p e below (OwD s below Q rm.cells rm.slots) s₁ (mkF m 0 Ls [])) :
    OwCon l y bytes maxL ret rm Z as' h Q := by
  intro ws
  refine MetFree.of_bodySF hpl hisR ?_
  intro p e s m args below meth c s₁ Bd hml0 hP hK
  obtain ⟨rfl, hZ, hh⟩ := hP
  have X0 : Stand p l e rm s m args below meth c s₁ [] 0 0 := Stand.of_body Bd
  obtain ⟨t, o, h1, h2, h3, h4⟩ := body p e s m below meth c s₁ ⟨Bd.exec, Bd.bytes, hml0, findClass_of_methodNamed Bd.named, (name_of_methodNamed Bd.named Bd.method).1, Bd.returns, BodyLoose.notSynchronized Bd, hZ⟩ X0 (by rw [← hh, Bd.state]; rfl)
  exact ⟨t, o, castTop (hent m) h1, h2, h3, h4⟩
/-- a contract may say less -/
theorem OwCon.mono {y : MethodName} {rm : Room} {as' : Array Value} {Q Q' : Option Value → Heap → List Loc → Prop} (M : OwCon l y bytes maxL ret rm Z as' h Q) (hq : ∀ v h' L, Q v h' L → Q' v h' L) : OwCon l y bytes maxL ret rm Z as' h Q' := by
  intro ws p e ha hc hk s m args below hf happ hP hK
  obtain ⟨n, o, h1, h2, h3, v, L, h4, h5, h6⟩ := M ws p e ha hc hk s m args below hf happ hP hK
  exact ⟨n, o, h1, h2, h3, v, L, h4, hq _ _ _ h5, h6⟩
/-- two roads that meet -/
theorem ow_join {f f' : JFrame} (X : Stand p l e R s m args below meth c T locs cells slots) (eT : T.heap = h) (A : ∀ D : State → Outcome → Prop, (∀ T', Stand p l e R s m args below meth c T' locs cells slots → T'.heap = h → OwF p e below D T' f') → OwF p e below D T f)
    (k : ∀ T', Stand p l e R s m args below meth c T' locs cells slots → T'.heap = h → OwF p e below D T' f') : OwF p e below D T f := A D k
/-- a long or nothing, in two places -/
def OwTwo (x y : Slot) : Prop := (x = .unset ∧ y = .unset) ∨ ∃ v : Int64, x = .val (.long v) ∧ y = .second
/-- two roads that meet, with locals that are read no more -/
theorem ow_joinL {f : JFrame} {r' : List Value} {P : Array Slot → Prop} (X : Stand p l e R s m args below meth c T locs cells slots) (eT : T.heap = h) (A : ∀ D : State → Outcome → Prop, (∀ Ls' T', P Ls' → Stand p l e R s m args below meth c T' locs cells slots → T'.heap = h → OwF p e below D T' (mkF m pc' Ls' r')) → OwF p e below D T f)
    (k : ∀ Ls' T', P Ls' → Stand p l e R s m args below meth c T' locs cells slots → T'.heap = h → OwF p e below D T' (mkF m pc' Ls' r')) : OwF p e below D T f := A D k
/-! returns -/
theorem ow_retI {Q : Option Value → Heap → List Loc → Prop} {kc ks : Nat} {z : Int32} (C : OwC p Z s m meth c own nm bytes maxL (some .int)) (X : Stand p l e R s m args below meth c T locs cells slots) (hd : decode bytes pc = .ok (.ireturn, 1)) (hc : cells ≤ kc) (hs : slots ≤ ks)
    (hQ : Q (some (.int z)) T.heap locs) : OwF p e below (OwD s below Q kc ks) T (mkF m pc Ls (.int z :: r)) := by
  obtain ⟨hx, hby, -, -, -, hret, hlk, -⟩ := C
  obtain ⟨fs, hr, hrun, hended, hW, hsame⟩ := X.leave (v := some (.int z)) (fun h => by rw [hret] at h; cases h) hlk
  exact ⟨_, _, retI X hx hret (hb hby hd) hr, hrun, hended, _, _, rfl, hQ, ⟨_, rfl⟩, hW, hsame.mono hc hs⟩
theorem ow_retZ {Q : Option Value → Heap → List Loc → Prop} {kc ks : Nat} {z : Int32} (C : OwC p Z s m meth c own nm bytes maxL (some .boolean)) (X : Stand p l e R s m args below meth c T locs cells slots) (hd : decode bytes pc = .ok (.ireturn, 1)) (hc : cells ≤ kc) (hs : slots ≤ ks) (hz : z = 0 ∨ z = 1)
    (hQ : Q (some (.int z)) T.heap locs) : OwF p e below (OwD s below Q kc ks) T (mkF m pc Ls (.int z :: r)) := by
  obtain ⟨hx, hby, -, -, -, hret, hlk, -⟩ := C
  have hn : nar .boolean z = z := by rcases hz with rfl | rfl <;> decide
  obtain ⟨fs, hr, hrun, hended, hW, hsame⟩ := X.leave (v := some (.int z)) (fun h => by rw [hret] at h; cases h) hlk
  exact ⟨_, _, retN X hx hret (by simp) (hb hby hd) (by rw [hn]; exact hr), hrun, hended, _, _, rfl, hQ, ⟨_, rfl⟩, hW, hsame.mono hc hs⟩
theorem ow_retJ {Q : Option Value → Heap → List Loc → Prop} {kc ks : Nat} {z : Int64} (C : OwC p Z s m meth c own nm bytes maxL (some .long)) (X : Stand p l e R s m args below meth c T locs cells slots) (hd : decode bytes pc = .ok (.lreturn, 1)) (hc : cells ≤ kc) (hs : slots ≤ ks)
    (hQ : Q (some (.long z)) T.heap locs) : OwF p e below (OwD s below Q kc ks) T (mkF m pc Ls [.long z]) := by
  obtain ⟨hx, hby, -, -, -, hret, hlk, -⟩ := C
  obtain ⟨fs, hr, hrun, hended, hW, hsame⟩ := X.leave (v := some (.long z)) (fun h => by rw [hret] at h; cases h) hlk
  exact ⟨_, _, X.lreturnOut hx hret (hb hby hd) hr, hrun, hended, _, _, rfl, hQ, ⟨_, rfl⟩, hW, hsame.mono hc hs⟩
theorem ow_retV {Q : Option Value → Heap → List Loc → Prop} {kc ks : Nat} (C : OwC p Z s m meth c own nm bytes maxL none) (X : Stand p l e R s m args below meth c T locs cells slots) (hd : decode bytes pc = .ok (.return_, 1)) (hc : cells ≤ kc) (hs : slots ≤ ks)
    (hQ : Q none T.heap locs) : OwF p e below (OwD s below Q kc ks) T (mkF m pc Ls []) := by
  obtain ⟨hx, hby, -, -, -, hret, hlk, -⟩ := C
  obtain ⟨fs, hr, hrun, hended, hW, hsame⟩ := X.leave (v := none) (fun _ => rfl) hlk
  exact ⟨_, _, X.returnOut hx hret (hb hby hd) hr, hrun, hended, _, _, rfl, hQ, ⟨_, rfl⟩, hW, hsame.mono hc hs⟩
end OwnKit
section OwnSteps
variable {p : Program} {l : Launch} {e : Env} {R : Room} {s : State} {m : MethodId} {args : Array Value} {below : List Frame} {meth : Method} {c : Code} {T : State} {locs : List Loc} {cells slots : Nat} {Z : State} {a0 : Array Value} {h : Heap}
variable {own nm : String} {bytes : ByteArray} {maxL : Nat} {ret : Option FieldType} {D : State → Outcome → Prop} {pc pc' pcT : Nat} {Ls Ls' : Array Slot} {r : List Value}
theorem ow_iadd {x y : Int32} (C : OwC p Z s m meth c own nm bytes maxL ret) (X : Stand p l e R s m args below meth c T locs cells slots) (hd : decode bytes pc = .ok (.iadd, 1))  (hp : pc + 1 = pc') (k : OwF p e below D T (mkF m pc' Ls (.int (x + y) :: r))) : OwF p e below D T (mkF m pc Ls (.int y :: .int x :: r)) := by
  subst hp; exact OwF.st (fun _ q => XS.iadd X.here C.1 rfl (hb C.2.1 hd) rfl q) k
theorem ow_isub {x y : Int32} (C : OwC p Z s m meth c own nm bytes maxL ret) (X : Stand p l e R s m args below meth c T locs cells slots) (hd : decode bytes pc = .ok (.isub, 1))  (hp : pc + 1 = pc') (k : OwF p e below D T (mkF m pc' Ls (.int (x - y) :: r))) : OwF p e below D T (mkF m pc Ls (.int y :: .int x :: r)) := by
  subst hp; exact OwF.st (fun _ q => XS.isub X.here C.1 rfl (hb C.2.1 hd) rfl q) k
theorem ow_imul {x y : Int32} (C : OwC p Z s m meth c own nm bytes maxL ret) (X : Stand p l e R s m args below meth c T locs cells slots) (hd : decode bytes pc = .ok (.imul, 1))  (hp : pc + 1 = pc') (k : OwF p e below D T (mkF m pc' Ls (.int (x * y) :: r))) : OwF p e below D T (mkF m pc Ls (.int y :: .int x :: r)) := by
  subst hp; exact OwF.st (fun _ q => XS.imul X.here C.1 rfl (hb C.2.1 hd) rfl q) k
theorem ow_iand {x y : Int32} (C : OwC p Z s m meth c own nm bytes maxL ret) (X : Stand p l e R s m args below meth c T locs cells slots) (hd : decode bytes pc = .ok (.iand, 1))  (hp : pc + 1 = pc') (k : OwF p e below D T (mkF m pc' Ls (.int (x &&& y) :: r))) : OwF p e below D T (mkF m pc Ls (.int y :: .int x :: r)) := by
  subst hp; exact OwF.st (fun _ q => XS.iand X.here C.1 rfl (hb C.2.1 hd) rfl q) k
theorem ow_ior {x y : Int32} (C : OwC p Z s m meth c own nm bytes maxL ret) (X : Stand p l e R s m args below meth c T locs cells slots) (hd : decode bytes pc = .ok (.ior, 1))  (hp : pc + 1 = pc') (k : OwF p e below D T (mkF m pc' Ls (.int (x ||| y) :: r))) : OwF p e below D T (mkF m pc Ls (.int y :: .int x :: r)) := by
  subst hp; exact OwF.st (fun _ q => XT.ior X.here C.1 rfl (hb C.2.1 hd) rfl q) k
theorem ow_ixor {x y : Int32} (C : OwC p Z s m meth c own nm bytes maxL ret) (X : Stand p l e R s m args below meth c T locs cells slots) (hd : decode bytes pc = .ok (.ixor, 1))  (hp : pc + 1 = pc') (k : OwF p e below D T (mkF m pc' Ls (.int (x ^^^ y) :: r))) : OwF p e below D T (mkF m pc Ls (.int y :: .int x :: r)) := by
  subst hp; exact OwF.st (fun _ q => XT.ixor X.here C.1 rfl (hb C.2.1 hd) rfl q) k
theorem ow_ishl {x y : Int32} (C : OwC p Z s m meth c own nm bytes maxL ret) (X : Stand p l e R s m args below meth c T locs cells slots) (hd : decode bytes pc = .ok (.ishl, 1))  (hp : pc + 1 = pc') (k : OwF p e below D T (mkF m pc' Ls (.int (x <<< (y &&& 31)) :: r))) : OwF p e below D T (mkF m pc Ls (.int y :: .int x :: r)) := by
  subst hp; exact OwF.st (fun _ q => XT.ishl X.here C.1 rfl (hb C.2.1 hd) rfl q) k
theorem ow_ishr {x y : Int32} (C : OwC p Z s m meth c own nm bytes maxL ret) (X : Stand p l e R s m args below meth c T locs cells slots) (hd : decode bytes pc = .ok (.ishr, 1))  (hp : pc + 1 = pc') (k : OwF p e below D T (mkF m pc' Ls (.int (x >>> (y &&& 31)) :: r))) : OwF p e below D T (mkF m pc Ls (.int y :: .int x :: r)) := by
  subst hp; exact OwF.st (fun _ q => XT.ishr X.here C.1 rfl (hb C.2.1 hd) rfl q) k
theorem ow_iushr {x y : Int32} (C : OwC p Z s m meth c own nm bytes maxL ret) (X : Stand p l e R s m args below meth c T locs cells slots) (hd : decode bytes pc = .ok (.iushr, 1))  (hp : pc + 1 = pc') (k : OwF p e below D T (mkF m pc' Ls (.int (XT.ushr x y) :: r))) : OwF p e below D T (mkF m pc Ls (.int y :: .int x :: r)) := by
  subst hp; exact OwF.st (fun _ q => XT.iushr X.here C.1 rfl (hb C.2.1 hd) rfl q) k
theorem ow_idiv {x y : Int32} (C : OwC p Z s m meth c own nm bytes maxL ret) (X : Stand p l e R s m args below meth c T locs cells slots) (hd : decode bytes pc = .ok (.idiv, 1)) (hy : y ≠ 0) (hp : pc + 1 = pc') (k : OwF p e below D T (mkF m pc' Ls (.int (x / y) :: r))) : OwF p e below D T (mkF m pc Ls (.int y :: .int x :: r)) := by
  subst hp; exact OwF.st (fun _ q => XS.idiv X.here C.1 rfl (hb C.2.1 hd) rfl hy q) k
theorem ow_irem {x y : Int32} (C : OwC p Z s m meth c own nm bytes maxL ret) (X : Stand p l e R s m args below meth c T locs cells slots) (hd : decode bytes pc = .ok (.irem, 1)) (hy : y ≠ 0) (hp : pc + 1 = pc') (k : OwF p e below D T (mkF m pc' Ls (.int (x - (x / y) * y) :: r))) : OwF p e below D T (mkF m pc Ls (.int y :: .int x :: r)) := by
  subst hp; exact OwF.st (fun _ q => XS.irem X.here C.1 rfl (hb C.2.1 hd) rfl hy q) k
theorem ow_ladd {x y : Int64} (C : OwC p Z s m meth c own nm bytes maxL ret) (X : Stand p l e R s m args below meth c T locs cells slots) (hd : decode bytes pc = .ok (.ladd, 1))  (hp : pc + 1 = pc') (k : OwF p e below D T (mkF m pc' Ls (.long (x + y) :: r))) : OwF p e below D T (mkF m pc Ls (.long y :: .long x :: r)) := by
  subst hp; exact OwF.st (fun _ q => XT.ladd X.here C.1 rfl (hb C.2.1 hd) rfl q) k
theorem ow_lsub {x y : Int64} (C : OwC p Z s m meth c own nm bytes maxL ret) (X : Stand p l e R s m args below meth c T locs cells slots) (hd : decode bytes pc = .ok (.lsub, 1))  (hp : pc + 1 = pc') (k : OwF p e below D T (mkF m pc' Ls (.long (x - y) :: r))) : OwF p e below D T (mkF m pc Ls (.long y :: .long x :: r)) := by
  subst hp; exact OwF.st (fun _ q => XT.lsub X.here C.1 rfl (hb C.2.1 hd) rfl q) k
theorem ow_lmul {x y : Int64} (C : OwC p Z s m meth c own nm bytes maxL ret) (X : Stand p l e R s m args below meth c T locs cells slots) (hd : decode bytes pc = .ok (.lmul, 1))  (hp : pc + 1 = pc') (k : OwF p e below D T (mkF m pc' Ls (.long (x * y) :: r))) : OwF p e below D T (mkF m pc Ls (.long y :: .long x :: r)) := by
  subst hp; exact OwF.st (fun _ q => XT.lmul X.here C.1 rfl (hb C.2.1 hd) rfl q) k
theorem ow_land {x y : Int64} (C : OwC p Z s m meth c own nm bytes maxL ret) (X : Stand p l e R s m args below meth c T locs cells slots) (hd : decode bytes pc = .ok (.land, 1))  (hp : pc + 1 = pc') (k : OwF p e below D T (mkF m pc' Ls (.long (x &&& y) :: r))) : OwF p e below D T (mkF m pc Ls (.long y :: .long x :: r)) := by
  subst hp; exact OwF.st (fun _ q => XT.land X.here C.1 rfl (hb C.2.1 hd) rfl q) k
theorem ow_lor {x y : Int64} (C : OwC p Z s m meth c own nm bytes maxL ret) (X : Stand p l e R s m args below meth c T locs cells slots) (hd : decode bytes pc = .ok (.lor, 1))  (hp : pc + 1 = pc') (k : OwF p e below D T (mkF m pc' Ls (.long (x ||| y) :: r))) : OwF p e below D T (mkF m pc Ls (.long y :: .long x :: r)) := by
  subst hp; exact OwF.st (fun _ q => XT.lor X.here C.1 rfl (hb C.2.1 hd) rfl q) k
theorem ow_lxor {x y : Int64} (C : OwC p Z s m meth c own nm bytes maxL ret) (X : Stand p l e R s m args below meth c T locs cells slots) (hd : decode bytes pc = .ok (.lxor, 1))  (hp : pc + 1 = pc') (k : OwF p e below D T (mkF m pc' Ls (.long (x ^^^ y) :: r))) : OwF p e below D T (mkF m pc Ls (.long y :: .long x :: r)) := by
  subst hp; exact OwF.st (fun _ q => XT.lxor X.here C.1 rfl (hb C.2.1 hd) rfl q) k
theorem ow_ldiv {x y : Int64} (C : OwC p Z s m meth c own nm bytes maxL ret) (X : Stand p l e R s m args below meth c T locs cells slots) (hd : decode bytes pc = .ok (.ldiv, 1)) (hy : y ≠ 0) (hp : pc + 1 = pc') (k : OwF p e below D T (mkF m pc' Ls (.long (x / y) :: r))) : OwF p e below D T (mkF m pc Ls (.long y :: .long x :: r)) := by
  subst hp; exact OwF.st (fun _ q => XT.ldiv X.here C.1 rfl (hb C.2.1 hd) rfl hy q) k
theorem ow_lrem {x y : Int64} (C : OwC p Z s m meth c own nm bytes maxL ret) (X : Stand p l e R s m args below meth c T locs cells slots) (hd : decode bytes pc = .ok (.lrem, 1)) (hy : y ≠ 0) (hp : pc + 1 = pc') (k : OwF p e below D T (mkF m pc' Ls (.long (x - (x / y) * y) :: r))) : OwF p e below D T (mkF m pc Ls (.long y :: .long x :: r)) := by
  subst hp; exact OwF.st (fun _ q => XT.lrem X.here C.1 rfl (hb C.2.1 hd) rfl hy q) k
theorem ow_lshl {x : Int64} {y : Int32} (C : OwC p Z s m meth c own nm bytes maxL ret) (X : Stand p l e R s m args below meth c T locs cells slots) (hd : decode bytes pc = .ok (.lshl, 1))  (hp : pc + 1 = pc') (k : OwF p e below D T (mkF m pc' Ls (.long (x <<< (y.toInt64 &&& 63)) :: r))) : OwF p e below D T (mkF m pc Ls (.int y :: .long x :: r)) := by
  subst hp; exact OwF.st (fun _ q => XT.lshl X.here C.1 rfl (hb C.2.1 hd) rfl q) k
theorem ow_lshr {x : Int64} {y : Int32} (C : OwC p Z s m meth c own nm bytes maxL ret) (X : Stand p l e R s m args below meth c T locs cells slots) (hd : decode bytes pc = .ok (.lshr, 1))  (hp : pc + 1 = pc') (k : OwF p e below D T (mkF m pc' Ls (.long (x >>> (y.toInt64 &&& 63)) :: r))) : OwF p e below D T (mkF m pc Ls (.int y :: .long x :: r)) := by
  subst hp; exact OwF.st (fun _ q => XT.lshr X.here C.1 rfl (hb C.2.1 hd) rfl q) k
theorem ow_lushr {x : Int64} {y : Int32} (C : OwC p Z s m meth c own nm bytes maxL ret) (X : Stand p l e R s m args below meth c T locs cells slots) (hd : decode bytes pc = .ok (.lushr, 1))  (hp : pc + 1 = pc') (k : OwF p e below D T (mkF m pc' Ls (.long (XT.ushrL x y) :: r))) : OwF p e below D T (mkF m pc Ls (.int y :: .long x :: r)) := by
  subst hp; exact OwF.st (fun _ q => XT.lushr X.here C.1 rfl (hb C.2.1 hd) rfl q) k
theorem ow_lcmp {x y : Int64} (C : OwC p Z s m meth c own nm bytes maxL ret) (X : Stand p l e R s m args below meth c T locs cells slots) (hd : decode bytes pc = .ok (.lcmp, 1))  (hp : pc + 1 = pc') (k : OwF p e below D T (mkF m pc' Ls (.int (XT.cmpL x y) :: r))) : OwF p e below D T (mkF m pc Ls (.long y :: .long x :: r)) := by
  subst hp; exact OwF.st (fun _ q => XT.lcmp X.here C.1 rfl (hb C.2.1 hd) rfl q) k
theorem ow_ineg {x : Int32} (C : OwC p Z s m meth c own nm bytes maxL ret) (X : Stand p l e R s m args below meth c T locs cells slots) (hd : decode bytes pc = .ok (.ineg, 1))  (hp : pc + 1 = pc') (k : OwF p e below D T (mkF m pc' Ls (.int (-x) :: r))) : OwF p e below D T (mkF m pc Ls (.int x :: r)) := by
  subst hp; exact OwF.st (fun _ q => XS.ineg X.here C.1 rfl (hb C.2.1 hd) rfl q) k
theorem ow_lneg {x : Int64} (C : OwC p Z s m meth c own nm bytes maxL ret) (X : Stand p l e R s m args below meth c T locs cells slots) (hd : decode bytes pc = .ok (.lneg, 1))  (hp : pc + 1 = pc') (k : OwF p e below D T (mkF m pc' Ls (.long (-x) :: r))) : OwF p e below D T (mkF m pc Ls (.long x :: r)) := by
  subst hp; exact OwF.st (fun _ q => XT.lneg X.here C.1 rfl (hb C.2.1 hd) rfl q) k
theorem ow_i2l {x : Int32} (C : OwC p Z s m meth c own nm bytes maxL ret) (X : Stand p l e R s m args below meth c T locs cells slots) (hd : decode bytes pc = .ok (.i2l, 1))  (hp : pc + 1 = pc') (k : OwF p e below D T (mkF m pc' Ls (.long x.toInt64 :: r))) : OwF p e below D T (mkF m pc Ls (.int x :: r)) := by
  subst hp; exact OwF.st (fun _ q => XT.i2l X.here C.1 rfl (hb C.2.1 hd) rfl q) k
theorem ow_l2i {x : Int64} (C : OwC p Z s m meth c own nm bytes maxL ret) (X : Stand p l e R s m args below meth c T locs cells slots) (hd : decode bytes pc = .ok (.l2i, 1))  (hp : pc + 1 = pc') (k : OwF p e below D T (mkF m pc' Ls (.int x.toInt32 :: r))) : OwF p e below D T (mkF m pc Ls (.long x :: r)) := by
  subst hp; exact OwF.st (fun _ q => XT.l2i X.here C.1 rfl (hb C.2.1 hd) rfl q) k
theorem ow_i2b {x : Int32} (C : OwC p Z s m meth c own nm bytes maxL ret) (X : Stand p l e R s m args below meth c T locs cells slots) (hd : decode bytes pc = .ok (.i2b, 1))  (hp : pc + 1 = pc') (k : OwF p e below D T (mkF m pc' Ls (.int x.toInt8.toInt32 :: r))) : OwF p e below D T (mkF m pc Ls (.int x :: r)) := by
  subst hp; exact OwF.st (fun _ q => XT.i2b X.here C.1 rfl (hb C.2.1 hd) rfl q) k
theorem ow_i2c {x : Int32} (C : OwC p Z s m meth c own nm bytes maxL ret) (X : Stand p l e R s m args below meth c T locs cells slots) (hd : decode bytes pc = .ok (.i2c, 1))  (hp : pc + 1 = pc') (k : OwF p e below D T (mkF m pc' Ls (.int x.toUInt32.toUInt16.toUInt32.toInt32 :: r))) : OwF p e below D T (mkF m pc Ls (.int x :: r)) := by
  subst hp; exact OwF.st (fun _ q => XT.i2c X.here C.1 rfl (hb C.2.1 hd) rfl q) k
theorem ow_i2s {x : Int32} (C : OwC p Z s m meth c own nm bytes maxL ret) (X : Stand p l e R s m args below meth c T locs cells slots) (hd : decode bytes pc = .ok (.i2s, 1))  (hp : pc + 1 = pc') (k : OwF p e below D T (mkF m pc' Ls (.int x.toInt16.toInt32 :: r))) : OwF p e below D T (mkF m pc Ls (.int x :: r)) := by
  subst hp; exact OwF.st (fun _ q => XT.i2s X.here C.1 rfl (hb C.2.1 hd) rfl q) k
theorem ow_dup {v : Value} (C : OwC p Z s m meth c own nm bytes maxL ret) (X : Stand p l e R s m args below meth c T locs cells slots) (hd : decode bytes pc = .ok (.dup, 1)) (hc : v.category = 1) (hp : pc + 1 = pc') (k : OwF p e below D T (mkF m pc' Ls (v :: v :: r))) : OwF p e below D T (mkF m pc Ls (v :: r)) := by
  subst hp; exact OwF.st (fun _ q => XS.dup X.here C.1 rfl (hb C.2.1 hd) rfl hc q) k
theorem ow_pop {v : Value} (C : OwC p Z s m meth c own nm bytes maxL ret) (X : Stand p l e R s m args below meth c T locs cells slots) (hd : decode bytes pc = .ok (.pop, 1)) (hc : v.category = 1) (hp : pc + 1 = pc') (k : OwF p e below D T (mkF m pc' Ls (r))) : OwF p e below D T (mkF m pc Ls (v :: r)) := by
  subst hp; exact OwF.st (fun _ q => XT.pop X.here C.1 rfl (hb C.2.1 hd) rfl hc q) k
theorem ow_dupX1 {v w : Value} (C : OwC p Z s m meth c own nm bytes maxL ret) (X : Stand p l e R s m args below meth c T locs cells slots) (hd : decode bytes pc = .ok (.dup_x1, 1)) (hc : v.category = 1) (hc' : w.category = 1) (hp : pc + 1 = pc') (k : OwF p e below D T (mkF m pc' Ls (v :: w :: v :: r))) : OwF p e below D T (mkF m pc Ls (v :: w :: r)) := by
  subst hp; exact OwF.st (fun _ q => XT.dupX1 X.here C.1 rfl (hb C.2.1 hd) rfl hc hc' q) k
theorem ow_dup2 {v w : Value} (C : OwC p Z s m meth c own nm bytes maxL ret) (X : Stand p l e R s m args below meth c T locs cells slots) (hd : decode bytes pc = .ok (.dup2, 1)) (hc : v.category = 1) (hc' : w.category = 1) (hp : pc + 1 = pc') (k : OwF p e below D T (mkF m pc' Ls (v :: w :: v :: w :: r))) : OwF p e below D T (mkF m pc Ls (v :: w :: r)) := by
  subst hp; exact OwF.st (fun _ q => XT.dup2 X.here C.1 rfl (hb C.2.1 hd) rfl hc hc' q) k
theorem ow_dup2L {x : Int64} (C : OwC p Z s m meth c own nm bytes maxL ret) (X : Stand p l e R s m args below meth c T locs cells slots) (hd : decode bytes pc = .ok (.dup2, 1))  (hp : pc + 1 = pc') (k : OwF p e below D T (mkF m pc' Ls (.long x :: .long x :: r))) : OwF p e below D T (mkF m pc Ls (.long x :: r)) := by
  subst hp; exact OwF.st (fun _ q => XT.dup2L X.here C.1 rfl (hb C.2.1 hd) rfl q) k
theorem ow_aconstNull  (C : OwC p Z s m meth c own nm bytes maxL ret) (X : Stand p l e R s m args below meth c T locs cells slots) (hd : decode bytes pc = .ok (.aconst_null, 1))  (hp : pc + 1 = pc') (k : OwF p e below D T (mkF m pc' Ls (.null :: r))) : OwF p e below D T (mkF m pc Ls (r)) := by
  subst hp; exact OwF.st (fun _ q => XS.aconstNull X.here C.1 rfl (hb C.2.1 hd)  q) k
theorem ow_iloadN {j : Fin 4} {v : Int32} (C : OwC p Z s m meth c own nm bytes maxL ret) (X : Stand p l e R s m args below meth c T locs cells slots) (hd : decode bytes pc = .ok (.iload_n j, 1)) (hl : Ls[j.val]? = some (.val (.int v))) (hp : pc + 1 = pc') (k : OwF p e below D T (mkF m pc' Ls (.int v :: r))) : OwF p e below D T (mkF m pc Ls (r)) := by
  subst hp; exact OwF.st (fun _ q => XS.iloadN X.here C.1 rfl (hb C.2.1 hd) hl q) k
theorem ow_iload {j : Nat} {v : Int32} (C : OwC p Z s m meth c own nm bytes maxL ret) (X : Stand p l e R s m args below meth c T locs cells slots) (hd : decode bytes pc = .ok (.iload j, 2)) (hl : Ls[j]? = some (.val (.int v))) (hp : pc + 2 = pc') (k : OwF p e below D T (mkF m pc' Ls (.int v :: r))) : OwF p e below D T (mkF m pc Ls (r)) := by
  subst hp; exact OwF.st (fun _ q => XS.iload X.here C.1 rfl (hb C.2.1 hd) hl q) k
theorem ow_lloadN {j : Fin 4} {v : Int64} (C : OwC p Z s m meth c own nm bytes maxL ret) (X : Stand p l e R s m args below meth c T locs cells slots) (hd : decode bytes pc = .ok (.lload_n j, 1)) (hl : Ls[j.val]? = some (.val (.long v))) (hp : pc + 1 = pc') (k : OwF p e below D T (mkF m pc' Ls (.long v :: r))) : OwF p e below D T (mkF m pc Ls (r)) := by
  subst hp; exact OwF.st (fun _ q => XT.lloadN X.here C.1 rfl (hb C.2.1 hd) hl q) k
theorem ow_lload {j : Nat} {v : Int64} (C : OwC p Z s m meth c own nm bytes maxL ret) (X : Stand p l e R s m args below meth c T locs cells slots) (hd : decode bytes pc = .ok (.lload j, 2)) (hl : Ls[j]? = some (.val (.long v))) (hp : pc + 2 = pc') (k : OwF p e below D T (mkF m pc' Ls (.long v :: r))) : OwF p e below D T (mkF m pc Ls (r)) := by
  subst hp; exact OwF.st (fun _ q => XT.lload X.here C.1 rfl (hb C.2.1 hd) hl q) k
theorem ow_aloadN {j : Fin 4} {v : Value} (C : OwC p Z s m meth c own nm bytes maxL ret) (X : Stand p l e R s m args below meth c T locs cells slots) (hd : decode bytes pc = .ok (.aload_n j, 1)) (hl : Ls[j.val]? = some (.val v)) (hv : v.isRef = true) (hp : pc + 1 = pc') (k : OwF p e below D T (mkF m pc' Ls (v :: r))) : OwF p e below D T (mkF m pc Ls (r)) := by
  subst hp; exact OwF.st (fun _ q => XS.aloadN X.here C.1 rfl (hb C.2.1 hd) hl hv q) k
theorem ow_aload {j : Nat} {v : Value} (C : OwC p Z s m meth c own nm bytes maxL ret) (X : Stand p l e R s m args below meth c T locs cells slots) (hd : decode bytes pc = .ok (.aload j, 2)) (hl : Ls[j]? = some (.val v)) (hv : v.isRef = true) (hp : pc + 2 = pc') (k : OwF p e below D T (mkF m pc' Ls (v :: r))) : OwF p e below D T (mkF m pc Ls (r)) := by
  subst hp; exact OwF.st (fun _ q => XS.aload X.here C.1 rfl (hb C.2.1 hd) hl hv q) k
theorem ow_istoreN {j : Fin 4} {v : Int32} (C : OwC p Z s m meth c own nm bytes maxL ret) (X : Stand p l e R s m args below meth c T locs cells slots) (hd : decode bytes pc = .ok (.istore_n j, 1)) (hl : storeLocals Ls j.val (.int v) = some Ls') (hp : pc + 1 = pc') (k : OwF p e below D T (mkF m pc' Ls' (r))) : OwF p e below D T (mkF m pc Ls (.int v :: r)) := by
  subst hp; exact OwF.st (fun _ q => XS.istoreN X.here C.1 rfl (hb C.2.1 hd) rfl hl q) k
theorem ow_istore {j : Nat} {v : Int32} (C : OwC p Z s m meth c own nm bytes maxL ret) (X : Stand p l e R s m args below meth c T locs cells slots) (hd : decode bytes pc = .ok (.istore j, 2)) (hl : storeLocals Ls j (.int v) = some Ls') (hp : pc + 2 = pc') (k : OwF p e below D T (mkF m pc' Ls' (r))) : OwF p e below D T (mkF m pc Ls (.int v :: r)) := by
  subst hp; exact OwF.st (fun _ q => XS.istore X.here C.1 rfl (hb C.2.1 hd) rfl hl q) k
theorem ow_lstoreN {j : Fin 4} {v : Int64} (C : OwC p Z s m meth c own nm bytes maxL ret) (X : Stand p l e R s m args below meth c T locs cells slots) (hd : decode bytes pc = .ok (.lstore_n j, 1)) (hl : storeLocals Ls j.val (.long v) = some Ls') (hp : pc + 1 = pc') (k : OwF p e below D T (mkF m pc' Ls' (r))) : OwF p e below D T (mkF m pc Ls (.long v :: r)) := by
  subst hp; exact OwF.st (fun _ q => XT.lstoreN X.here C.1 rfl (hb C.2.1 hd) rfl hl q) k
theorem ow_lstore {j : Nat} {v : Int64} (C : OwC p Z s m meth c own nm bytes maxL ret) (X : Stand p l e R s m args below meth c T locs cells slots) (hd : decode bytes pc = .ok (.lstore j, 2)) (hl : storeLocals Ls j (.long v) = some Ls') (hp : pc + 2 = pc') (k : OwF p e below D T (mkF m pc' Ls' (r))) : OwF p e below D T (mkF m pc Ls (.long v :: r)) := by
  subst hp; exact OwF.st (fun _ q => XT.lstore X.here C.1 rfl (hb C.2.1 hd) rfl hl q) k
theorem ow_astoreN {j : Fin 4} {v : Value} (C : OwC p Z s m meth c own nm bytes maxL ret) (X : Stand p l e R s m args below meth c T locs cells slots) (hd : decode bytes pc = .ok (.astore_n j, 1)) (hv : v.isRef = true) (hl : storeLocals Ls j.val v = some Ls') (hp : pc + 1 = pc') (k : OwF p e below D T (mkF m pc' Ls' (r))) : OwF p e below D T (mkF m pc Ls (v :: r)) := by
  subst hp; exact OwF.st (fun _ q => XS.astoreN X.here C.1 rfl (hb C.2.1 hd) rfl hv hl q) k
theorem ow_astore {j : Nat} {v : Value} (C : OwC p Z s m meth c own nm bytes maxL ret) (X : Stand p l e R s m args below meth c T locs cells slots) (hd : decode bytes pc = .ok (.astore j, 2)) (hv : v.isRef = true) (hl : storeLocals Ls j v = some Ls') (hp : pc + 2 = pc') (k : OwF p e below D T (mkF m pc' Ls' (r))) : OwF p e below D T (mkF m pc Ls (v :: r)) := by
  subst hp; exact OwF.st (fun _ q => XS.astore X.here C.1 rfl (hb C.2.1 hd) rfl hv hl q) k
theorem ow_iconst {i : Int} (v : Int32) (C : OwC p Z s m meth c own nm bytes maxL ret) (X : Stand p l e R s m args below meth c T locs cells slots) (hd : decode bytes pc = .ok (.iconst i, 1)) (hv : Int32.ofInt i = v) (hp : pc + 1 = pc') (k : OwF p e below D T (mkF m pc' Ls (.int v :: r))) : OwF p e below D T (mkF m pc Ls r) := by
  subst hp; subst hv; exact OwF.st (fun _ q => XS.iconst X.here C.1 rfl (hb C.2.1 hd) q) k
theorem ow_bipush {i : Int} (v : Int32) (C : OwC p Z s m meth c own nm bytes maxL ret) (X : Stand p l e R s m args below meth c T locs cells slots) (hd : decode bytes pc = .ok (.bipush i, 2)) (hv : (Int8.ofInt i).toInt32 = v) (hp : pc + 2 = pc') (k : OwF p e below D T (mkF m pc' Ls (.int v :: r))) : OwF p e below D T (mkF m pc Ls r) := by
  subst hp; subst hv; exact OwF.st (fun _ q => XS.bipush X.here C.1 rfl (hb C.2.1 hd) q) k
theorem ow_sipush {i : Int} (v : Int32) (C : OwC p Z s m meth c own nm bytes maxL ret) (X : Stand p l e R s m args below meth c T locs cells slots) (hd : decode bytes pc = .ok (.sipush i, 3)) (hv : (Int16.ofInt i).toInt32 = v) (hp : pc + 3 = pc') (k : OwF p e below D T (mkF m pc' Ls (.int v :: r))) : OwF p e below D T (mkF m pc Ls r) := by
  subst hp; subst hv; exact OwF.st (fun _ q => XS.sipush X.here C.1 rfl (hb C.2.1 hd) q) k
theorem ow_lconst {i : Fin 2} (v : Int64) (C : OwC p Z s m meth c own nm bytes maxL ret) (X : Stand p l e R s m args below meth c T locs cells slots) (hd : decode bytes pc = .ok (.lconst i, 1)) (hv : Int64.ofNat i = v) (hp : pc + 1 = pc') (k : OwF p e below D T (mkF m pc' Ls (.long v :: r))) : OwF p e below D T (mkF m pc Ls r) := by
  subst hp; subst hv; exact OwF.st (fun _ q => XT.lconst X.here C.1 rfl (hb C.2.1 hd) q) k
theorem ow_iinc {i : Int} {j : Nat} {x : Int32} (v : Int32) (C : OwC p Z s m meth c own nm bytes maxL ret) (X : Stand p l e R s m args below meth c T locs cells slots) (hd : decode bytes pc = .ok (.iinc j i, 3)) (hv : Int32.ofInt i = v) (hl : Ls[j]? = some (.val (.int x))) (hl' : storeLocals Ls j (.int (x + v)) = some Ls') (hp : pc + 3 = pc') (k : OwF p e below D T (mkF m pc' Ls' r)) : OwF p e below D T (mkF m pc Ls r) := by
  subst hp; subst hv; exact OwF.st (fun _ q => XS.iinc X.here C.1 rfl (hb C.2.1 hd) hl hl' q) k
theorem ow_ldc {i : Nat} {v : Int32} (C : OwC p Z s m meth c own nm bytes maxL ret) (X : Stand p l e R s m args below meth c T locs cells slots) (w : (Jvm.Cond.constant own i v).before a0 Z = true) (hd : decode bytes pc = .ok (.ldc i, 2)) (hp : pc + 2 = pc') (k : OwF p e below D T (mkF m pc' Ls (.int v :: r))) : OwF p e below D T (mkF m pc Ls r) := by
  subst hp; exact OwF.st (fun _ q => X.ldcI C.1 C.2.2.2.1 (mvT C.2.2.2.2.2.2.2 w) rfl (hb C.2.1 hd) q) k
theorem ow_ldcW {i : Nat} {v : Int32} (C : OwC p Z s m meth c own nm bytes maxL ret) (X : Stand p l e R s m args below meth c T locs cells slots) (w : (Jvm.Cond.constant own i v).before a0 Z = true) (hd : decode bytes pc = .ok (.ldc_w i, 3)) (hp : pc + 3 = pc') (k : OwF p e below D T (mkF m pc' Ls (.int v :: r))) : OwF p e below D T (mkF m pc Ls r) := by
  subst hp; exact OwF.st (fun _ q => X.ldcWI C.1 C.2.2.2.1 (mvT C.2.2.2.2.2.2.2 w) rfl (hb C.2.1 hd) q) k
theorem ow_ldc2 {i : Nat} {v : Int64} (C : OwC p Z s m meth c own nm bytes maxL ret) (X : Stand p l e R s m args below meth c T locs cells slots) (w : (Jvm.Cond.constantLong own i v).before a0 Z = true) (hd : decode bytes pc = .ok (.ldc2_w i, 3)) (hp : pc + 3 = pc') (k : OwF p e below D T (mkF m pc' Ls (.long v :: r))) : OwF p e below D T (mkF m pc Ls r) := by
  subst hp; exact OwF.st (fun _ q => X.ldc2J C.1 C.2.2.2.1 (mvT C.2.2.2.2.2.2.2 w) rfl (hb C.2.1 hd) q) k
theorem ow_goto {o : Int} (C : OwC p Z s m meth c own nm bytes maxL ret) (X : Stand p l e R s m args below meth c T locs cells slots) (hd : decode bytes pc = .ok (.goto o, 3)) (ho : 0 ≤ (pc : Int) + o) (ht : ((pc : Int) + o).toNat = pcT) (k : OwF p e below D T (mkF m pcT Ls r)) : OwF p e below D T (mkF m pc Ls r) :=
  OwF.st (fun _ q => XS.goto X.here C.1 rfl rfl (hb C.2.1 hd) ho ht q) k
theorem ow_if_eq {x : Int32} {o : Int} (C : OwC p Z s m meth c own nm bytes maxL ret) (X : Stand p l e R s m args below meth c T locs cells slots) (hd : decode bytes pc = .ok (.ifCond .eq o, 3)) (ho : 0 ≤ (pc : Int) + o) (ht : ((pc : Int) + o).toNat = pcT) (hp : pc + 3 = pc') (k1 : x = 0 → OwF p e below D T (mkF m pcT Ls r)) (k2 : ¬ x = 0 → OwF p e below D T (mkF m pc' Ls r)) : OwF p e below D T (mkF m pc Ls (.int x :: r)) := by
  subst hp
  by_cases hq : x = 0
  · exact OwF.st (fun _ q => XS.ifYes X.here C.1 rfl rfl (hb C.2.1 hd) rfl (XT.i0_eq_t hq) ho ht q) (k1 hq)
  · exact OwF.st (fun _ q => XS.ifNo X.here C.1 rfl (hb C.2.1 hd) rfl (XT.i0_eq_f hq) q) (k2 hq)
theorem ow_icmp_eq {x y : Int32} {o : Int} (C : OwC p Z s m meth c own nm bytes maxL ret) (X : Stand p l e R s m args below meth c T locs cells slots) (hd : decode bytes pc = .ok (.if_icmp .eq o, 3)) (ho : 0 ≤ (pc : Int) + o) (ht : ((pc : Int) + o).toNat = pcT) (hp : pc + 3 = pc') (k1 : x = y → OwF p e below D T (mkF m pcT Ls r)) (k2 : ¬ x = y → OwF p e below D T (mkF m pc' Ls r)) : OwF p e below D T (mkF m pc Ls (.int y :: .int x :: r)) := by
  subst hp
  by_cases hq : x = y
  · exact OwF.st (fun _ q => XS.icmpYes X.here C.1 rfl rfl (hb C.2.1 hd) rfl (XT.ii_eq_t hq) ho ht q) (k1 hq)
  · exact OwF.st (fun _ q => XS.icmpNo X.here C.1 rfl (hb C.2.1 hd) rfl (XT.ii_eq_f hq) q) (k2 hq)
theorem ow_lif_eq {x y : Int64} {o : Int} (C : OwC p Z s m meth c own nm bytes maxL ret) (X : Stand p l e R s m args below meth c T locs cells slots) (hd : decode bytes pc = .ok (.ifCond .eq o, 3)) (ho : 0 ≤ (pc : Int) + o) (ht : ((pc : Int) + o).toNat = pcT) (hp : pc + 3 = pc') (k1 : x = y → OwF p e below D T (mkF m pcT Ls r)) (k2 : ¬ x = y → OwF p e below D T (mkF m pc' Ls r)) : OwF p e below D T (mkF m pc Ls (.int (XT.cmpL x y) :: r)) := by
  subst hp
  by_cases hq : x = y
  · exact OwF.st (fun _ q => XS.ifYes X.here C.1 rfl rfl (hb C.2.1 hd) rfl (XT.ll_eq_t hq) ho ht q) (k1 hq)
  · exact OwF.st (fun _ q => XS.ifNo X.here C.1 rfl (hb C.2.1 hd) rfl (XT.ll_eq_f hq) q) (k2 hq)
theorem ow_if_ne {x : Int32} {o : Int} (C : OwC p Z s m meth c own nm bytes maxL ret) (X : Stand p l e R s m args below meth c T locs cells slots) (hd : decode bytes pc = .ok (.ifCond .ne o, 3)) (ho : 0 ≤ (pc : Int) + o) (ht : ((pc : Int) + o).toNat = pcT) (hp : pc + 3 = pc') (k1 : ¬ x = 0 → OwF p e below D T (mkF m pcT Ls r)) (k2 : x = 0 → OwF p e below D T (mkF m pc' Ls r)) : OwF p e below D T (mkF m pc Ls (.int x :: r)) := by
  subst hp
  by_cases hq : x = 0
  · exact OwF.st (fun _ q => XS.ifNo X.here C.1 rfl (hb C.2.1 hd) rfl (XT.i0_ne_f hq) q) (k2 hq)
  · exact OwF.st (fun _ q => XS.ifYes X.here C.1 rfl rfl (hb C.2.1 hd) rfl (XT.i0_ne_t hq) ho ht q) (k1 hq)
theorem ow_icmp_ne {x y : Int32} {o : Int} (C : OwC p Z s m meth c own nm bytes maxL ret) (X : Stand p l e R s m args below meth c T locs cells slots) (hd : decode bytes pc = .ok (.if_icmp .ne o, 3)) (ho : 0 ≤ (pc : Int) + o) (ht : ((pc : Int) + o).toNat = pcT) (hp : pc + 3 = pc') (k1 : ¬ x = y → OwF p e below D T (mkF m pcT Ls r)) (k2 : x = y → OwF p e below D T (mkF m pc' Ls r)) : OwF p e below D T (mkF m pc Ls (.int y :: .int x :: r)) := by
  subst hp
  by_cases hq : x = y
  · exact OwF.st (fun _ q => XS.icmpNo X.here C.1 rfl (hb C.2.1 hd) rfl (XT.ii_ne_f hq) q) (k2 hq)
  · exact OwF.st (fun _ q => XS.icmpYes X.here C.1 rfl rfl (hb C.2.1 hd) rfl (XT.ii_ne_t hq) ho ht q) (k1 hq)
theorem ow_lif_ne {x y : Int64} {o : Int} (C : OwC p Z s m meth c own nm bytes maxL ret) (X : Stand p l e R s m args below meth c T locs cells slots) (hd : decode bytes pc = .ok (.ifCond .ne o, 3)) (ho : 0 ≤ (pc : Int) + o) (ht : ((pc : Int) + o).toNat = pcT) (hp : pc + 3 = pc') (k1 : ¬ x = y → OwF p e below D T (mkF m pcT Ls r)) (k2 : x = y → OwF p e below D T (mkF m pc' Ls r)) : OwF p e below D T (mkF m pc Ls (.int (XT.cmpL x y) :: r)) := by
  subst hp
  by_cases hq : x = y
  · exact OwF.st (fun _ q => XS.ifNo X.here C.1 rfl (hb C.2.1 hd) rfl (XT.ll_ne_f hq) q) (k2 hq)
  · exact OwF.st (fun _ q => XS.ifYes X.here C.1 rfl rfl (hb C.2.1 hd) rfl (XT.ll_ne_t hq) ho ht q) (k1 hq)
theorem ow_if_lt {x : Int32} {o : Int} (C : OwC p Z s m meth c own nm bytes maxL ret) (X : Stand p l e R s m args below meth c T locs cells slots) (hd : decode bytes pc = .ok (.ifCond .lt o, 3)) (ho : 0 ≤ (pc : Int) + o) (ht : ((pc : Int) + o).toNat = pcT) (hp : pc + 3 = pc') (k1 : x < 0 → OwF p e below D T (mkF m pcT Ls r)) (k2 : ¬ x < 0 → OwF p e below D T (mkF m pc' Ls r)) : OwF p e below D T (mkF m pc Ls (.int x :: r)) := by
  subst hp
  by_cases hq : x < 0
  · exact OwF.st (fun _ q => XS.ifYes X.here C.1 rfl rfl (hb C.2.1 hd) rfl (XT.i0_lt_t hq) ho ht q) (k1 hq)
  · exact OwF.st (fun _ q => XS.ifNo X.here C.1 rfl (hb C.2.1 hd) rfl (XT.i0_lt_f hq) q) (k2 hq)
theorem ow_icmp_lt {x y : Int32} {o : Int} (C : OwC p Z s m meth c own nm bytes maxL ret) (X : Stand p l e R s m args below meth c T locs cells slots) (hd : decode bytes pc = .ok (.if_icmp .lt o, 3)) (ho : 0 ≤ (pc : Int) + o) (ht : ((pc : Int) + o).toNat = pcT) (hp : pc + 3 = pc') (k1 : x < y → OwF p e below D T (mkF m pcT Ls r)) (k2 : ¬ x < y → OwF p e below D T (mkF m pc' Ls r)) : OwF p e below D T (mkF m pc Ls (.int y :: .int x :: r)) := by
  subst hp
  by_cases hq : x < y
  · exact OwF.st (fun _ q => XS.icmpYes X.here C.1 rfl rfl (hb C.2.1 hd) rfl (XT.ii_lt_t hq) ho ht q) (k1 hq)
  · exact OwF.st (fun _ q => XS.icmpNo X.here C.1 rfl (hb C.2.1 hd) rfl (XT.ii_lt_f hq) q) (k2 hq)
theorem ow_lif_lt {x y : Int64} {o : Int} (C : OwC p Z s m meth c own nm bytes maxL ret) (X : Stand p l e R s m args below meth c T locs cells slots) (hd : decode bytes pc = .ok (.ifCond .lt o, 3)) (ho : 0 ≤ (pc : Int) + o) (ht : ((pc : Int) + o).toNat = pcT) (hp : pc + 3 = pc') (k1 : x < y → OwF p e below D T (mkF m pcT Ls r)) (k2 : ¬ x < y → OwF p e below D T (mkF m pc' Ls r)) : OwF p e below D T (mkF m pc Ls (.int (XT.cmpL x y) :: r)) := by
  subst hp
  by_cases hq : x < y
  · exact OwF.st (fun _ q => XS.ifYes X.here C.1 rfl rfl (hb C.2.1 hd) rfl (XT.ll_lt_t hq) ho ht q) (k1 hq)
  · exact OwF.st (fun _ q => XS.ifNo X.here C.1 rfl (hb C.2.1 hd) rfl (XT.ll_lt_f hq) q) (k2 hq)
theorem ow_if_ge {x : Int32} {o : Int} (C : OwC p Z s m meth c own nm bytes maxL ret) (X : Stand p l e R s m args below meth c T locs cells slots) (hd : decode bytes pc = .ok (.ifCond .ge o, 3)) (ho : 0 ≤ (pc : Int) + o) (ht : ((pc : Int) + o).toNat = pcT) (hp : pc + 3 = pc') (k1 : ¬ x < 0 → OwF p e below D T (mkF m pcT Ls r)) (k2 : x < 0 → OwF p e below D T (mkF m pc' Ls r)) : OwF p e below D T (mkF m pc Ls (.int x :: r)) := by
  subst hp
  by_cases hq : x < 0
  · exact OwF.st (fun _ q => XS.ifNo X.here C.1 rfl (hb C.2.1 hd) rfl (XT.i0_ge_f hq) q) (k2 hq)
  · exact OwF.st (fun _ q => XS.ifYes X.here C.1 rfl rfl (hb C.2.1 hd) rfl (XT.i0_ge_t hq) ho ht q) (k1 hq)
theorem ow_icmp_ge {x y : Int32} {o : Int} (C : OwC p Z s m meth c own nm bytes maxL ret) (X : Stand p l e R s m args below meth c T locs cells slots) (hd : decode bytes pc = .ok (.if_icmp .ge o, 3)) (ho : 0 ≤ (pc : Int) + o) (ht : ((pc : Int) + o).toNat = pcT) (hp : pc + 3 = pc') (k1 : ¬ x < y → OwF p e below D T (mkF m pcT Ls r)) (k2 : x < y → OwF p e below D T (mkF m pc' Ls r)) : OwF p e below D T (mkF m pc Ls (.int y :: .int x :: r)) := by
  subst hp
  by_cases hq : x < y
  · exact OwF.st (fun _ q => XS.icmpNo X.here C.1 rfl (hb C.2.1 hd) rfl (XT.ii_ge_f hq) q) (k2 hq)
  · exact OwF.st (fun _ q => XS.icmpYes X.here C.1 rfl rfl (hb C.2.1 hd) rfl (XT.ii_ge_t hq) ho ht q) (k1 hq)
theorem ow_lif_ge {x y : Int64} {o : Int} (C : OwC p Z s m meth c own nm bytes maxL ret) (X : Stand p l e R s m args below meth c T locs cells slots) (hd : decode bytes pc = .ok (.ifCond .ge o, 3)) (ho : 0 ≤ (pc : Int) + o) (ht : ((pc : Int) + o).toNat = pcT) (hp : pc + 3 = pc') (k1 : ¬ x < y → OwF p e below D T (mkF m pcT Ls r)) (k2 : x < y → OwF p e below D T (mkF m pc' Ls r)) : OwF p e below D T (mkF m pc Ls (.int (XT.cmpL x y) :: r)) := by
  subst hp
  by_cases hq : x < y
  · exact OwF.st (fun _ q => XS.ifNo X.here C.1 rfl (hb C.2.1 hd) rfl (XT.ll_ge_f hq) q) (k2 hq)
  · exact OwF.st (fun _ q => XS.ifYes X.here C.1 rfl rfl (hb C.2.1 hd) rfl (XT.ll_ge_t hq) ho ht q) (k1 hq)
theorem ow_if_gt {x : Int32} {o : Int} (C : OwC p Z s m meth c own nm bytes maxL ret) (X : Stand p l e R s m args below meth c T locs cells slots) (hd : decode bytes pc = .ok (.ifCond .gt o, 3)) (ho : 0 ≤ (pc : Int) + o) (ht : ((pc : Int) + o).toNat = pcT) (hp : pc + 3 = pc') (k1 : 0 < x → OwF p e below D T (mkF m pcT Ls r)) (k2 : ¬ 0 < x → OwF p e below D T (mkF m pc' Ls r)) : OwF p e below D T (mkF m pc Ls (.int x :: r)) := by
  subst hp
  by_cases hq : 0 < x
  · exact OwF.st (fun _ q => XS.ifYes X.here C.1 rfl rfl (hb C.2.1 hd) rfl (XT.i0_gt_t hq) ho ht q) (k1 hq)
  · exact OwF.st (fun _ q => XS.ifNo X.here C.1 rfl (hb C.2.1 hd) rfl (XT.i0_gt_f hq) q) (k2 hq)
theorem ow_icmp_gt {x y : Int32} {o : Int} (C : OwC p Z s m meth c own nm bytes maxL ret) (X : Stand p l e R s m args below meth c T locs cells slots) (hd : decode bytes pc = .ok (.if_icmp .gt o, 3)) (ho : 0 ≤ (pc : Int) + o) (ht : ((pc : Int) + o).toNat = pcT) (hp : pc + 3 = pc') (k1 : y < x → OwF p e below D T (mkF m pcT Ls r)) (k2 : ¬ y < x → OwF p e below D T (mkF m pc' Ls r)) : OwF p e below D T (mkF m pc Ls (.int y :: .int x :: r)) := by
  subst hp
  by_cases hq : y < x
  · exact OwF.st (fun _ q => XS.icmpYes X.here C.1 rfl rfl (hb C.2.1 hd) rfl (XT.ii_gt_t hq) ho ht q) (k1 hq)
  · exact OwF.st (fun _ q => XS.icmpNo X.here C.1 rfl (hb C.2.1 hd) rfl (XT.ii_gt_f hq) q) (k2 hq)
theorem ow_lif_gt {x y : Int64} {o : Int} (C : OwC p Z s m meth c own nm bytes maxL ret) (X : Stand p l e R s m args below meth c T locs cells slots) (hd : decode bytes pc = .ok (.ifCond .gt o, 3)) (ho : 0 ≤ (pc : Int) + o) (ht : ((pc : Int) + o).toNat = pcT) (hp : pc + 3 = pc') (k1 : y < x → OwF p e below D T (mkF m pcT Ls r)) (k2 : ¬ y < x → OwF p e below D T (mkF m pc' Ls r)) : OwF p e below D T (mkF m pc Ls (.int (XT.cmpL x y) :: r)) := by
  subst hp
  by_cases hq : y < x
  · exact OwF.st (fun _ q => XS.ifYes X.here C.1 rfl rfl (hb C.2.1 hd) rfl (XT.ll_gt_t hq) ho ht q) (k1 hq)
  · exact OwF.st (fun _ q => XS.ifNo X.here C.1 rfl (hb C.2.1 hd) rfl (XT.ll_gt_f hq) q) (k2 hq)
theorem ow_if_le {x : Int32} {o : Int} (C : OwC p Z s m meth c own nm bytes maxL ret) (X : Stand p l e R s m args below meth c T locs cells slots) (hd : decode bytes pc = .ok (.ifCond .le o, 3)) (ho : 0 ≤ (pc : Int) + o) (ht : ((pc : Int) + o).toNat = pcT) (hp : pc + 3 = pc') (k1 : ¬ 0 < x → OwF p e below D T (mkF m pcT Ls r)) (k2 : 0 < x → OwF p e below D T (mkF m pc' Ls r)) : OwF p e below D T (mkF m pc Ls (.int x :: r)) := by
  subst hp
  by_cases hq : 0 < x
  · exact OwF.st (fun _ q => XS.ifNo X.here C.1 rfl (hb C.2.1 hd) rfl (XT.i0_le_f hq) q) (k2 hq)
  · exact OwF.st (fun _ q => XS.ifYes X.here C.1 rfl rfl (hb C.2.1 hd) rfl (XT.i0_le_t hq) ho ht q) (k1 hq)
theorem ow_icmp_le {x y : Int32} {o : Int} (C : OwC p Z s m meth c own nm bytes maxL ret) (X : Stand p l e R s m args below meth c T locs cells slots) (hd : decode bytes pc = .ok (.if_icmp .le o, 3)) (ho : 0 ≤ (pc : Int) + o) (ht : ((pc : Int) + o).toNat = pcT) (hp : pc + 3 = pc') (k1 : ¬ y < x → OwF p e below D T (mkF m pcT Ls r)) (k2 : y < x → OwF p e below D T (mkF m pc' Ls r)) : OwF p e below D T (mkF m pc Ls (.int y :: .int x :: r)) := by
  subst hp
  by_cases hq : y < x
  · exact OwF.st (fun _ q => XS.icmpNo X.here C.1 rfl (hb C.2.1 hd) rfl (XT.ii_le_f hq) q) (k2 hq)
  · exact OwF.st (fun _ q => XS.icmpYes X.here C.1 rfl rfl (hb C.2.1 hd) rfl (XT.ii_le_t hq) ho ht q) (k1 hq)
theorem ow_lif_le {x y : Int64} {o : Int} (C : OwC p Z s m meth c own nm bytes maxL ret) (X : Stand p l e R s m args below meth c T locs cells slots) (hd : decode bytes pc = .ok (.ifCond .le o, 3)) (ho : 0 ≤ (pc : Int) + o) (ht : ((pc : Int) + o).toNat = pcT) (hp : pc + 3 = pc') (k1 : ¬ y < x → OwF p e below D T (mkF m pcT Ls r)) (k2 : y < x → OwF p e below D T (mkF m pc' Ls r)) : OwF p e below D T (mkF m pc Ls (.int (XT.cmpL x y) :: r)) := by
  subst hp
  by_cases hq : y < x
  · exact OwF.st (fun _ q => XS.ifNo X.here C.1 rfl (hb C.2.1 hd) rfl (XT.ll_le_f hq) q) (k2 hq)
  · exact OwF.st (fun _ q => XS.ifYes X.here C.1 rfl rfl (hb C.2.1 hd) rfl (XT.ll_le_t hq) ho ht q) (k1 hq)
end OwnSteps
section OwnObj
variable {p : Program} {l : Launch} {e : Env} {R : Room} {s : State} {m : MethodId} {args : Array Value} {below : List Frame} {meth : Method} {c : Code} {T : State} {locs : List Loc} {cells slots : Nat} {Z : State} {a0 : Array Value} {h : Heap}
variable {own nm : String} {bytes : ByteArray} {maxL : Nat} {ret : Option FieldType} {D : State → Outcome → Prop} {pc pc' pcT : Nat} {Ls Ls' : Array Slot} {r : List Value}
/-- what lies on a stack, in words -/
abbrev owCat (r : List Value) : Nat := (r.map fun v => v.category).sum
theorem ow_getF {O n d : String} {index : Nat} {a : Addr} {v : Value} (C : OwC p Z s m meth c own nm bytes maxL ret) (X : Stand p l e R s m args below meth c T locs cells slots) (eT : T.heap = h) (w : (Jvm.Cond.fieldLink own index O n d).before a0 Z = true) (F : Fld Z h a O n d v)
    (hd : decode bytes pc = .ok (.getfield index, 3)) (hp : pc + 3 = pc') (k : ∀ T', Stand p l e R s m args below meth c T' locs cells slots → T'.heap = h → OwF p e below D T' (mkF m pc' Ls (v :: r))) : OwF p e below D T (mkF m pc Ls (.ref a :: r)) := by
  subst hp
  obtain ⟨T', X', e', st⟩ := getF X C.1 C.2.2.2.2.2.2.2 C.2.2.2.1 (host := "") (Or.inl w) Via.refl eT F (g := mkF m pc Ls (.ref a :: r)) rfl rfl (hb C.2.1 hd)
  exact OwF.st st (k T' X' e')
theorem ow_putF {O n d K : String} {index kk : Nat} {ty : FieldType} {a : Addr} {v old : Value} (C : OwC p Z s m meth c own nm bytes maxL ret) (X : Stand p l e R s m args below meth c T locs cells slots) (eT : T.heap = h) (w : (Jvm.Cond.fieldLink own index O n d).before a0 Z = true) (F : Fld Z h a O n d old) (E : Exa Z h a K)
    (L : (Jvm.Cond.lays K O n d).before a0 Z = true ∨ ((Jvm.Cond.laysFinal K O n d).before a0 Z = true ∧ own = O ∧ nm = "<init>")) (wi : (Jvm.Cond.instantiable K kk).before a0 Z = true) (hty : parseFieldDescriptor d = some ty) (hn : narrow ty v = v) (hf : fits ty v = true)
    (hd : decode bytes pc = .ok (.putfield index, 3)) (hp : pc + 3 = pc')
    (k : ∀ T' h', Stand p l e R s m args below meth c T' (locs ++ [⟨a, Jvm.RoadKit.slotOf Z O n d⟩]) cells slots → T'.heap = h' → Wr h h' a (Jvm.RoadKit.slotOf Z O n d) v → OwF p e below D T' (mkF m pc' Ls r)) : OwF p e below D T (mkF m pc Ls (v :: .ref a :: r)) := by
  subst hp
  obtain ⟨T', h', X', e', W', st⟩ := putF X C.1 C.2.2.2.2.2.2.2 C.2.2.2.1 (host := "") (Or.inl w) Via.refl eT F E (L.imp id fun q => ⟨q.1, q.2.1, C.2.2.2.2.1.trans q.2.2⟩) wi hty hn hf (g := mkF m pc Ls (v :: .ref a :: r)) rfl rfl (hb C.2.1 hd)
  exact OwF.st st (k T' h' X' e' W')
theorem ow_getS {O n d : String} {index : Nat} {v : Value} (C : OwC p Z s m meth c own nm bytes maxL ret) (X : Stand p l e R s m args below meth c T locs cells slots) (eT : T.heap = h) (w : (Jvm.Cond.fieldLink own index O n d).before a0 Z = true) (F : Sta Z h O n d v)
    (hd : decode bytes pc = .ok (.getstatic index, 3)) (hp : pc + 3 = pc') (k : ∀ T', Stand p l e R s m args below meth c T' locs cells slots → T'.heap = h → OwF p e below D T' (mkF m pc' Ls (v :: r))) : OwF p e below D T (mkF m pc Ls r) := by
  subst hp
  obtain ⟨T', X', e', st⟩ := getS X C.1 C.2.2.2.2.2.2.2 C.2.2.2.1 (host := "") w Via.refl eT F (g := mkF m pc Ls r) rfl (hb C.2.1 hd)
  exact OwF.st st (k T' X' e')
theorem ow_new {K : String} {index n : Nat} (C : OwC p Z s m meth c own nm bytes maxL ret) (X : Stand p l e R s m args below meth c T locs cells slots) (eT : T.heap = h) (w : (Jvm.Cond.classLink own index K).before a0 Z = true) (wi : (Jvm.Cond.instantiable K n).before a0 Z = true) (wz : (Jvm.Cond.initialized K).before a0 Z = true)
    (hd : decode bytes pc = .ok (.new index, 3)) (hc : cells + 1 ≤ R.cells) (hl : slots + n ≤ R.slots) (hp : pc + 3 = pc')
    (k : ∀ T' h' a, a = h.size → Stand p l e R s m args below meth c T' locs (cells + 1) (slots + n) → T'.heap = h' → Ext h h' → Exa Z h' a K → (∀ {O nm d : String} {ty : FieldType}, Laid Z a0 K O nm d → parseFieldDescriptor d = some ty → Fld Z h' a O nm d (defaultValue ty)) → OwF p e below D T' (mkF m pc' Ls (.ref a :: r))) : OwF p e below D T (mkF m pc Ls r) := by
  subst hp
  obtain ⟨T', h', X', e', E', A', D', -, st⟩ := newO X C.1 C.2.2.2.2.2.2.2 C.2.2.2.1 w wi wz eT (g := mkF m pc Ls r) rfl (hb C.2.1 hd) hc hl
  exact OwF.st st (k T' h' _ rfl X' e' E' A' D')
theorem ow_initO {index : Nat} {a : Addr} (C : OwC p Z s m meth c own nm bytes maxL ret) (X : Stand p l e R s m args below meth c T locs cells slots) (eT : T.heap = h) (w1 : (Jvm.Cond.methodLink own index Lib.objectInit).before a0 Z = true) (w2 : (Jvm.Cond.instanceMethod Lib.objectInit).before a0 Z = true)
    (w3 : (Jvm.Cond.code Lib.objectInit ⟨#[0xb1]⟩ 1 none).before a0 Z = true) (hsz : Ls.size = maxL) (hd : decode bytes pc = .ok (.invokespecial index, 3)) (hf : 1 ≤ R.frames) (hl : owCat r + 12 ≤ R.locals) (hp : pc + 3 = pc')
    (k : ∀ T', Stand p l e R s m args below meth c T' locs cells slots → T'.heap = h → OwF p e below D T' (mkF m pc' Ls r)) : OwF p e below D T (mkF m pc Ls (.ref a :: r)) := by
  subst hp
  obtain ⟨T', X', e', st⟩ := initO X C.1 C.2.2.2.2.2.2.2 C.2.2.2.1 w1 w2 w3 eT (g := mkF m pc Ls (.ref a :: r)) rfl (by rw [C.2.2.1]; exact hsz) rfl (hb C.2.1 hd) hf (W := owCat r) (by show 2 * 0 + owCat r ≤ owCat r; omega) hl
  exact OwF.st st (k T' X' e')
/-- a static method by its contract -/
theorem ow_callS {index : Nat} {y : MethodName} {by' : ByteArray} {mx : Nat} {rt : Option FieldType} {rm : Room} {Q : Option Value → Heap → List Loc → Prop} {stk argsL rest : List Value} {ps : List FieldType} {pr : Option FieldType}
    (C : OwC p Z s m meth c own nm bytes maxL ret) (X : Stand p l e R s m args below meth c T locs cells slots) (eT : T.heap = h)
    (w1 : (Jvm.Cond.methodLink own index y).before a0 Z = true) (w2 : (Jvm.Cond.static y).before a0 Z = true) (w3 : (Jvm.Cond.initialized y.cls).before a0 Z = true) (w4 : (Jvm.Cond.code y by' mx rt).before a0 Z = true) (hy : y.cls ≠ "java/lang/invoke/MethodHandle" ∧ y.cls ≠ "java/lang/invoke/VarHandle")
    (M : OwCon l y by' mx rt rm Z argsL.toArray h Q) (hds : parseMethodDescriptor y.desc = some ⟨ps, pr⟩) (hln : argsL.length = ps.length) (hst : stk = argsL.reverse ++ rest) (hsz : Ls.size = maxL)
    (hd : decode bytes pc = .ok (.invokestatic index, 3)) (hfr : rm.frames + 1 ≤ R.frames) (hlo : owCat rest + (mx + 11) + rm.locals ≤ R.locals) (hcl : cells + rm.cells ≤ R.cells) (hsl : slots + rm.slots ≤ R.slots) (hp : pc + 3 = pc')
    (k : ∀ T' v L, Stand p l e R s m args below meth c T' (locs ++ L) (cells + rm.cells) (slots + rm.slots) → Q v T'.heap L → OwF p e below D T' (mkF m pc' Ls (v.toList ++ rest))) : OwF p e below D T (mkF m pc Ls stk) := by
  subst hp; subst hst
  have hZ := C.2.2.2.2.2.2.2
  obtain ⟨v, _, ⟨T', L', k', n'⟩, -, X', ⟨Lc, hQ, l', y', z'⟩, st⟩ := Jvm.LawKit.callS X C.1 (y := y) C.2.2.2.1 (mvT hZ w1) (mvT hZ w2) (mvT hZ w3) (mvT hZ w4) hy (backOf (W := owCat rest) (M []) hZ w4 w3 hfr hlo) (g := mkF m pc Ls (argsL.reverse ++ rest)) rfl (by rw [C.2.2.1]; exact hsz) (argsL := argsL) (rest := rest) (lenOf hds hln) rfl (by show 2 * 0 + owCat rest ≤ owCat rest; omega) (hb C.2.1 hd) (fun _ _ => ⟨rfl, eT, hcl, hsl⟩)
  dsimp only [Pt.U, Pt.locs, Pt.cells, Pt.slots] at X' l' y' z' st hQ
  subst l' y' z'
  exact OwF.st st (k T' v Lc X' hQ)
/-- a constructor by its contract -/
theorem ow_callN {index : Nat} {y : MethodName} {by' : ByteArray} {mx : Nat} {rm : Room} {Q : Option Value → Heap → List Loc → Prop} {stk argsL rest : List Value} {ps : List FieldType} {pr : Option FieldType} {a : Addr}
    (C : OwC p Z s m meth c own nm bytes maxL ret) (X : Stand p l e R s m args below meth c T locs cells slots) (eT : T.heap = h) (hni : y.name = "<init>")
    (w1 : (Jvm.Cond.methodLink own index y).before a0 Z = true) (w2 : (Jvm.Cond.instanceMethod y).before a0 Z = true) (w3 : (Jvm.Cond.initialized y.cls).before a0 Z = true) (w4 : (Jvm.Cond.code y by' mx none).before a0 Z = true) (hy : y.cls ≠ "java/lang/invoke/MethodHandle" ∧ y.cls ≠ "java/lang/invoke/VarHandle")
    (M : OwCon l y by' mx none rm Z (.ref a :: argsL).toArray h Q) (hds : parseMethodDescriptor y.desc = some ⟨ps, pr⟩) (hln : argsL.length = ps.length) (hst : stk = argsL.reverse ++ .ref a :: rest) (hsz : Ls.size = maxL)
    (hd : decode bytes pc = .ok (.invokespecial index, 3)) (hfr : rm.frames + 1 ≤ R.frames) (hlo : owCat rest + (mx + 11) + rm.locals ≤ R.locals) (hcl : cells + rm.cells ≤ R.cells) (hsl : slots + rm.slots ≤ R.slots) (hp : pc + 3 = pc')
    (k : ∀ T' v L, Stand p l e R s m args below meth c T' (locs ++ L) (cells + rm.cells) (slots + rm.slots) → Q v T'.heap L → OwF p e below D T' (mkF m pc' Ls (v.toList ++ rest))) : OwF p e below D T (mkF m pc Ls stk) := by
  subst hp; subst hst
  have hZ := C.2.2.2.2.2.2.2
  obtain ⟨v, _, ⟨T', L', k', n'⟩, -, X', ⟨Lc, hQ, l', y', z'⟩, st⟩ := X.specialBack C.1 (y := y) hni C.2.2.2.1 (mvT hZ w1) (mvT hZ w2) (mvT hZ w4) hy (backOf (W := owCat rest) (M []) hZ w4 w3 hfr hlo) (g := mkF m pc Ls (argsL.reverse ++ .ref a :: rest)) rfl (by rw [C.2.2.1]; exact hsz) (Steps.refl _) (a := a) (argsL := argsL) (rest := rest) (lenOf hds hln) rfl (by show 2 * 0 + owCat rest ≤ owCat rest; omega) (hb C.2.1 hd) (fun _ _ => ⟨rfl, eT, hcl, hsl⟩)
  dsimp only [Pt.U, Pt.locs, Pt.cells, Pt.slots] at X' l' y' z' st hQ
  subst l' y' z'
  exact OwF.st (fun _ q => st.trans q) (k T' v Lc X' hQ)
/-- an instance method by its contract -/
theorem ow_callV {K : String} {index : Nat} {y : MethodName} {by' : ByteArray} {mx : Nat} {rt : Option FieldType} {rm : Room} {Q : Option Value → Heap → List Loc → Prop} {stk argsL rest : List Value} {ps : List FieldType} {pr : Option FieldType} {a : Addr}
    (C : OwC p Z s m meth c own nm bytes maxL ret) (X : Stand p l e R s m args below meth c T locs cells slots) (eT : T.heap = h)
    (w1 : (Jvm.Cond.methodLink own index y).before a0 Z = true) (w2 : (Jvm.Cond.declares y).before a0 Z = true) (w5 : (Jvm.Cond.selects K y y).before a0 Z = true) (hK : K = y.cls) (w6 : (Jvm.Cond.instanceMethod y).before a0 Z = true) (w3 : (Jvm.Cond.initialized y.cls).before a0 Z = true) (w4 : (Jvm.Cond.code y by' mx rt).before a0 Z = true)
    (hy : y.cls ≠ "java/lang/invoke/MethodHandle" ∧ y.cls ≠ "java/lang/invoke/VarHandle") (E : Exa Z h a K)
    (M : OwCon l y by' mx rt rm Z (.ref a :: argsL).toArray h Q) (hds : parseMethodDescriptor y.desc = some ⟨ps, pr⟩) (hln : argsL.length = ps.length) (hst : stk = argsL.reverse ++ .ref a :: rest) (hsz : Ls.size = maxL)
    (hd : decode bytes pc = .ok (.invokevirtual index, 3)) (hfr : rm.frames + 1 ≤ R.frames) (hlo : owCat rest + (mx + 11) + rm.locals ≤ R.locals) (hcl : cells + rm.cells ≤ R.cells) (hsl : slots + rm.slots ≤ R.slots) (hp : pc + 3 = pc')
    (k : ∀ T' v L, Stand p l e R s m args below meth c T' (locs ++ L) (cells + rm.cells) (slots + rm.slots) → Q v T'.heap L → OwF p e below D T' (mkF m pc' Ls (v.toList ++ rest))) : OwF p e below D T (mkF m pc Ls stk) := by
  subst hp; subst hst; subst hK
  have hZ := C.2.2.2.2.2.2.2
  obtain ⟨cq, kq, q1, q2, q3⟩ := isOf hZ eT E
  obtain ⟨v, _, ⟨T', L', k', n'⟩, -, X', ⟨Lc, hQ, l', y', z'⟩, st⟩ := X.virtualBack C.1 (y := y) (z := y) C.2.2.2.1 (mvT hZ w1) (mvT hZ w2) (notFace_of_selects (args := #[]) (mvT hZ w5)) (mvT hZ w5) (mvT hZ w6) hy (backOf (W := owCat rest) (M []) hZ w4 w3 hfr hlo) q1 q3 (g := mkF m pc Ls (argsL.reverse ++ .ref a :: rest)) rfl (by rw [C.2.2.1]; exact hsz) (Steps.refl _) (argsL := argsL) (rest := rest) (lenOf hds hln) rfl (by show 2 * 0 + owCat rest ≤ owCat rest; omega) (hb C.2.1 hd) (fun _ _ => ⟨rfl, eT, hcl, hsl⟩)
  dsimp only [Pt.U, Pt.locs, Pt.cells, Pt.slots] at X' l' y' z' st hQ
  subst l' y' z'
  exact OwF.st (fun _ q => st.trans q) (k T' v Lc X' hQ)
/-- a pure answer: the value, nothing written, the heap as it was -/
abbrev OwP (v : Option Value) (h : Heap) (v' : Option Value) (h' : Heap) (L : List Loc) : Prop := v' = v ∧ L = [] ∧ h' = h
/-- a pure static method -/
theorem ow_callSP {index : Nat} {y : MethodName} {by' : ByteArray} {mx : Nat} {rt : Option FieldType} {rm : Room} {v : Value} {stk argsL rest : List Value} {ps : List FieldType} {pr : Option FieldType}
    (C : OwC p Z s m meth c own nm bytes maxL ret) (X : Stand p l e R s m args below meth c T locs cells slots) (eT : T.heap = h)
    (w1 : (Jvm.Cond.methodLink own index y).before a0 Z = true) (w2 : (Jvm.Cond.static y).before a0 Z = true) (w3 : (Jvm.Cond.initialized y.cls).before a0 Z = true) (w4 : (Jvm.Cond.code y by' mx rt).before a0 Z = true) (hy : y.cls ≠ "java/lang/invoke/MethodHandle" ∧ y.cls ≠ "java/lang/invoke/VarHandle")
    (M : OwCon l y by' mx rt rm Z argsL.toArray h (OwP (some v) h)) (hrm : rm.cells = 0 ∧ rm.slots = 0) (hds : parseMethodDescriptor y.desc = some ⟨ps, pr⟩) (hln : argsL.length = ps.length) (hst : stk = argsL.reverse ++ rest) (hsz : Ls.size = maxL)
    (hd : decode bytes pc = .ok (.invokestatic index, 3)) (hfr : rm.frames + 1 ≤ R.frames) (hlo : owCat rest + (mx + 11) + rm.locals ≤ R.locals) (hcl : cells ≤ R.cells) (hsl : slots ≤ R.slots) (hp : pc + 3 = pc')
    (k : ∀ T', Stand p l e R s m args below meth c T' locs cells slots → T'.heap = h → OwF p e below D T' (mkF m pc' Ls (v :: rest))) : OwF p e below D T (mkF m pc Ls stk) := by
  refine ow_callS C X eT w1 w2 w3 w4 hy M hds hln hst hsz hd hfr hlo (by rw [hrm.1]; exact hcl) (by rw [hrm.2]; exact hsl) hp fun T' v' L' X' hQ => ?_
  obtain ⟨rfl, rfl, hh⟩ := hQ
  rw [hrm.1, hrm.2, List.append_nil] at X'
  exact k T' X' hh
/-- a pure instance method -/
theorem ow_callVP {K : String} {index : Nat} {y : MethodName} {by' : ByteArray} {mx : Nat} {rt : Option FieldType} {rm : Room} {v : Value} {stk argsL rest : List Value} {ps : List FieldType} {pr : Option FieldType} {a : Addr}
    (C : OwC p Z s m meth c own nm bytes maxL ret) (X : Stand p l e R s m args below meth c T locs cells slots) (eT : T.heap = h)
    (w1 : (Jvm.Cond.methodLink own index y).before a0 Z = true) (w2 : (Jvm.Cond.declares y).before a0 Z = true) (w5 : (Jvm.Cond.selects K y y).before a0 Z = true) (hK : K = y.cls) (w6 : (Jvm.Cond.instanceMethod y).before a0 Z = true) (w3 : (Jvm.Cond.initialized y.cls).before a0 Z = true) (w4 : (Jvm.Cond.code y by' mx rt).before a0 Z = true)
    (hy : y.cls ≠ "java/lang/invoke/MethodHandle" ∧ y.cls ≠ "java/lang/invoke/VarHandle") (E : Exa Z h a K)
    (M : OwCon l y by' mx rt rm Z (.ref a :: argsL).toArray h (OwP (some v) h)) (hrm : rm.cells = 0 ∧ rm.slots = 0) (hds : parseMethodDescriptor y.desc = some ⟨ps, pr⟩) (hln : argsL.length = ps.length) (hst : stk = argsL.reverse ++ .ref a :: rest) (hsz : Ls.size = maxL)
    (hd : decode bytes pc = .ok (.invokevirtual index, 3)) (hfr : rm.frames + 1 ≤ R.frames) (hlo : owCat rest + (mx + 11) + rm.locals ≤ R.locals) (hcl : cells ≤ R.cells) (hsl : slots ≤ R.slots) (hp : pc + 3 = pc')
    (k : ∀ T', Stand p l e R s m args below meth c T' locs cells slots → T'.heap = h → OwF p e below D T' (mkF m pc' Ls (v :: rest))) : OwF p e below D T (mkF m pc Ls stk) := by
  refine ow_callV C X eT w1 w2 w5 hK w6 w3 w4 hy E M hds hln hst hsz hd hfr hlo (by rw [hrm.1]; exact hcl) (by rw [hrm.2]; exact hsl) hp fun T' v' L' X' hQ => ?_
  obtain ⟨rfl, rfl, hh⟩ := hQ
  rw [hrm.1, hrm.2, List.append_nil] at X'
  exact k T' X' hh
/-- a constructor that leaves all as it is -/
theorem ow_callNP {index : Nat} {y : MethodName} {by' : ByteArray} {mx : Nat} {rm : Room} {stk argsL rest : List Value} {ps : List FieldType} {pr : Option FieldType} {a : Addr}
    (C : OwC p Z s m meth c own nm bytes maxL ret) (X : Stand p l e R s m args below meth c T locs cells slots) (eT : T.heap = h) (hni : y.name = "<init>")
    (w1 : (Jvm.Cond.methodLink own index y).before a0 Z = true) (w2 : (Jvm.Cond.instanceMethod y).before a0 Z = true) (w3 : (Jvm.Cond.initialized y.cls).before a0 Z = true) (w4 : (Jvm.Cond.code y by' mx none).before a0 Z = true) (hy : y.cls ≠ "java/lang/invoke/MethodHandle" ∧ y.cls ≠ "java/lang/invoke/VarHandle")
    (M : OwCon l y by' mx none rm Z (.ref a :: argsL).toArray h (OwP none h)) (hrm : rm.cells = 0 ∧ rm.slots = 0) (hds : parseMethodDescriptor y.desc = some ⟨ps, pr⟩) (hln : argsL.length = ps.length) (hst : stk = argsL.reverse ++ .ref a :: rest) (hsz : Ls.size = maxL)
    (hd : decode bytes pc = .ok (.invokespecial index, 3)) (hfr : rm.frames + 1 ≤ R.frames) (hlo : owCat rest + (mx + 11) + rm.locals ≤ R.locals) (hcl : cells ≤ R.cells) (hsl : slots ≤ R.slots) (hp : pc + 3 = pc')
    (k : ∀ T', Stand p l e R s m args below meth c T' locs cells slots → T'.heap = h → OwF p e below D T' (mkF m pc' Ls rest)) : OwF p e below D T (mkF m pc Ls stk) := by
  refine ow_callN C X eT hni w1 w2 w3 w4 hy M hds hln hst hsz hd hfr hlo (by rw [hrm.1]; exact hcl) (by rw [hrm.2]; exact hsl) hp fun T' v' L' X' hQ => ?_
  obtain ⟨rfl, rfl, hh⟩ := hQ
  rw [hrm.1, hrm.2, List.append_nil] at X'
  exact k T' X' hh
end OwnObj
section OwnArr
variable {p : Program} {l : Launch} {e : Env} {R : Room} {s : State} {m : MethodId} {args : Array Value} {below : List Frame} {meth : Method} {c : Code} {T : State} {locs : List Loc} {cells slots : Nat} {Z : State} {a0 : Array Value} {h h' : Heap}
variable {own nm : String} {bytes : ByteArray} {maxL : Nat} {ret : Option FieldType} {D : State → Outcome → Prop} {pc pc' pcT : Nat} {Ls Ls' : Array Slot} {r : List Value}
variable {a b : Addr} {ty : FieldType} {n i : Nat} {f g : Nat → Value} {v : Value} {sl : Nat} {ws : List Addr} {K : String} {kk : Nat}
/-- an array of n places, place j holds f j -/
def OwA (Z : State) (h : Heap) (a : Addr) (ty : FieldType) (n : Nat) (f : Nat → Value) : Prop := ∃ c : Cell, Arr Z h a c ty ∧ c.slots.size = n ∧ ∀ j, j < n → c.slots[j]? = some (f j)
theorem OwA.lt (A : OwA Z h a ty n f) : a < h.size := by obtain ⟨c, A, -⟩ := A; exact A.lt
theorem OwA.ext (A : OwA Z h a ty n f) (E : Ext h h') : OwA Z h' a ty n f := by obtain ⟨c, A, r⟩ := A; exact ⟨c, A.ext E, r⟩
theorem OwA.other (A : OwA Z h b ty n f) (W : Wr h h' a sl v) (q : b ≠ a) : OwA Z h' b ty n f := by obtain ⟨c, A, r⟩ := A; exact ⟨c, A.other W q, r⟩
theorem OwA.keep (A : OwA Z h a ty n f) (K : Keep h h' ws) (q : a ∉ ws) : OwA Z h' a ty n f := by obtain ⟨c, A, r⟩ := A; exact ⟨c, ⟨K.2.1 a c A.1 q, A.2⟩, r⟩
theorem OwA.congr (A : OwA Z h a ty n f) (q : ∀ j, j < n → f j = g j) : OwA Z h a ty n g := by obtain ⟨c, A, S, H⟩ := A; exact ⟨c, A, S, fun j hj => by rw [← q j hj]; exact H j hj⟩
theorem OwA.set (A : OwA Z h a ty n f) (W : Wr h h' a i v) : OwA Z h' a ty n (fun j => if j = i then v else f j) := by
  obtain ⟨c, A, S, H⟩ := A
  refine ⟨c.setSlot i v, A.same W, by rw [sz_set]; exact S, fun j hj => ?_⟩
  show (c.slots.setIfInBounds i v)[j]? = some (if j = i then v else f j)
  by_cases q : j = i
  · subst q
    rw [if_pos rfl, Array.getElem?_setIfInBounds_self_of_lt (by omega)]
  · rw [if_neg q, Array.getElem?_setIfInBounds_ne (fun w => q w.symm)]; exact H j hj
theorem OwA.new {k : ClassId} {z : Int32} (A : Arr Z h a (newA k ty z) ty) : OwA Z h a ty z.toNatClampNeg (fun _ => defaultValue ty) := by
  refine ⟨_, A, sz_new _ _ _, fun j hj => ?_⟩
  show (Array.replicate z.toNatClampNeg (defaultValue ty))[j]? = _
  rw [Array.getElem?_replicate, if_pos hj]
theorem OwA.ne (A : OwA Z h b ty n f) (E : Exa Z h a K) (wi : (Jvm.Cond.instantiable K kk).before a0 Z = true) : a ≠ b := by obtain ⟨c, A, -⟩ := A; exact ne_arr E wi A
theorem ow_newarr {aty : ArrayType} {z : Int32} {N cap : Nat} (C : OwC p Z s m meth c own nm bytes maxL ret) (X : Stand p l e R s m args below meth c T locs cells slots) (eT : T.heap = h) (w : (Jvm.Cond.arrayClass (newarray.typeOf aty)).before a0 Z = true) (hd : decode bytes pc = .ok (.newarray aty, 2))
    (hn : ¬ z < 0) (hN : z.toNatClampNeg = N) (hcap : N ≤ cap) (hb8 : cap * 8 ≤ 536870912) (hc : cells + 1 ≤ R.cells) (hl : slots + cap ≤ R.slots) (hp : pc + 2 = pc')
    (k : ∀ T' h' a, a = h.size → Stand p l e R s m args below meth c T' locs (cells + 1) (slots + cap) → T'.heap = h' → Ext h h' → OwA Z h' a (newarray.typeOf aty) N (fun _ => defaultValue (newarray.typeOf aty)) → OwF p e below D T' (mkF m pc' Ls (.ref a :: r))) : OwF p e below D T (mkF m pc Ls (.int z :: r)) := by
  subst hp; subst hN
  obtain ⟨T', h', cA, X', e', E', A', st⟩ := newP X C.1 C.2.2.2.2.2.2.2 w eT (g := mkF m pc Ls (.int z :: r)) rfl (hb C.2.1 hd) rfl hn hcap hb8 hc hl
  exact OwF.st st (k T' h' _ rfl X' e' E' (OwA.new A'))
theorem ow_arraylength {z : Int32} (C : OwC p Z s m meth c own nm bytes maxL ret) (X : Stand p l e R s m args below meth c T locs cells slots) (eT : T.heap = h) (A : OwA Z h a ty n f) (hz : n.toInt32 = z) (hd : decode bytes pc = .ok (.arraylength, 1)) (hp : pc + 1 = pc')
    (k : OwF p e below D T (mkF m pc' Ls (.int z :: r))) : OwF p e below D T (mkF m pc Ls (.ref a :: r)) := by
  subst hp; subst hz
  obtain ⟨cl, A, S, -⟩ := A
  subst S
  exact OwF.st (fun t q => X.arraylength C.1 (by rw [eT]; exact A.1) (State.isArrayOf_alike C.2.2.2.2.2.2.2.alike A.2.1) (g := mkF m pc Ls (.ref a :: r)) rfl rfl (hb C.2.1 hd) t q) k
theorem ow_iaload {z : Int32} (C : OwC p Z s m meth c own nm bytes maxL ret) (X : Stand p l e R s m args below meth c T locs cells slots) (eT : T.heap = h) (A : OwA Z h a .int n f) (h0 : ¬ z < 0) (hj : z.toNatClampNeg = i) (hlt : i < n) (hv : f i = v) (hd : decode bytes pc = .ok (.iaload, 1)) (hp : pc + 1 = pc')
    (k : OwF p e below D T (mkF m pc' Ls (v :: r))) : OwF p e below D T (mkF m pc Ls (.int z :: .ref a :: r)) := by
  subst hp; subst hj; subst hv
  obtain ⟨cl, A, S, H⟩ := A
  exact OwF.st (fun t q => X.iaload C.1 (by rw [eT]; exact A.1) (State.isArrayOf_alike C.2.2.2.2.2.2.2.alike A.2.1) A.2.2 (fun w => w.elim h0 (fun w => by omega)) (H _ hlt) (g := mkF m pc Ls (.int z :: .ref a :: r)) rfl rfl (hb C.2.1 hd) t q) k
theorem ow_laload {z : Int32} (C : OwC p Z s m meth c own nm bytes maxL ret) (X : Stand p l e R s m args below meth c T locs cells slots) (eT : T.heap = h) (A : OwA Z h a .long n f) (h0 : ¬ z < 0) (hj : z.toNatClampNeg = i) (hlt : i < n) (hv : f i = v) (hd : decode bytes pc = .ok (.laload, 1)) (hp : pc + 1 = pc')
    (k : OwF p e below D T (mkF m pc' Ls (v :: r))) : OwF p e below D T (mkF m pc Ls (.int z :: .ref a :: r)) := by
  subst hp; subst hj; subst hv
  obtain ⟨cl, A, S, H⟩ := A
  exact OwF.st (fun t q => X.laload C.1 (by rw [eT]; exact A.1) (State.isArrayOf_alike C.2.2.2.2.2.2.2.alike A.2.1) A.2.2 (fun w => w.elim h0 (fun w => by omega)) (H _ hlt) (g := mkF m pc Ls (.int z :: .ref a :: r)) rfl rfl (hb C.2.1 hd) t q) k
theorem ow_caload {z : Int32} (C : OwC p Z s m meth c own nm bytes maxL ret) (X : Stand p l e R s m args below meth c T locs cells slots) (eT : T.heap = h) (A : OwA Z h a .char n f) (h0 : ¬ z < 0) (hj : z.toNatClampNeg = i) (hlt : i < n) (hv : f i = v) (hd : decode bytes pc = .ok (.caload, 1)) (hp : pc + 1 = pc')
    (k : OwF p e below D T (mkF m pc' Ls (v :: r))) : OwF p e below D T (mkF m pc Ls (.int z :: .ref a :: r)) := by
  subst hp; subst hj; subst hv
  obtain ⟨cl, A, S, H⟩ := A
  exact OwF.st (fun t q => X.caload C.1 (by rw [eT]; exact A.1) (State.isArrayOf_alike C.2.2.2.2.2.2.2.alike A.2.1) A.2.2 (fun w => w.elim h0 (fun w => by omega)) (H _ hlt) (g := mkF m pc Ls (.int z :: .ref a :: r)) rfl rfl (hb C.2.1 hd) t q) k
theorem ow_saload {z : Int32} (C : OwC p Z s m meth c own nm bytes maxL ret) (X : Stand p l e R s m args below meth c T locs cells slots) (eT : T.heap = h) (A : OwA Z h a .short n f) (h0 : ¬ z < 0) (hj : z.toNatClampNeg = i) (hlt : i < n) (hv : f i = v) (hd : decode bytes pc = .ok (.saload, 1)) (hp : pc + 1 = pc')
    (k : OwF p e below D T (mkF m pc' Ls (v :: r))) : OwF p e below D T (mkF m pc Ls (.int z :: .ref a :: r)) := by
  subst hp; subst hj; subst hv
  obtain ⟨cl, A, S, H⟩ := A
  exact OwF.st (fun t q => X.saload C.1 (by rw [eT]; exact A.1) (State.isArrayOf_alike C.2.2.2.2.2.2.2.alike A.2.1) A.2.2 (fun w => w.elim h0 (fun w => by omega)) (H _ hlt) (g := mkF m pc Ls (.int z :: .ref a :: r)) rfl rfl (hb C.2.1 hd) t q) k
theorem ow_aaload {z : Int32} (C : OwC p Z s m meth c own nm bytes maxL ret) (X : Stand p l e R s m args below meth c T locs cells slots) (eT : T.heap = h) (A : OwA Z h a ty n f) (hty : ty.isReference = true) (h0 : ¬ z < 0) (hj : z.toNatClampNeg = i) (hlt : i < n) (hv : f i = v) (hd : decode bytes pc = .ok (.aaload, 1)) (hp : pc + 1 = pc')
    (k : OwF p e below D T (mkF m pc' Ls (v :: r))) : OwF p e below D T (mkF m pc Ls (.int z :: .ref a :: r)) := by
  subst hp; subst hj; subst hv
  obtain ⟨cl, A, S, H⟩ := A
  exact OwF.st (fun t q => X.aaload C.1 (by rw [eT]; exact A.1) (State.isArrayOf_alike C.2.2.2.2.2.2.2.alike A.2.1) hty A.2.2 (fun w => w.elim h0 (fun w => by omega)) (H _ hlt) (g := mkF m pc Ls (.int z :: .ref a :: r)) rfl rfl (hb C.2.1 hd) t q) k
theorem ow_baload {z : Int32} (C : OwC p Z s m meth c own nm bytes maxL ret) (X : Stand p l e R s m args below meth c T locs cells slots) (eT : T.heap = h) (A : OwA Z h a .byte n f) (h0 : ¬ z < 0) (hj : z.toNatClampNeg = i) (hlt : i < n) (hv : f i = v) (hd : decode bytes pc = .ok (.baload, 1)) (hp : pc + 1 = pc')
    (k : OwF p e below D T (mkF m pc' Ls (v :: r))) : OwF p e below D T (mkF m pc Ls (.int z :: .ref a :: r)) := by
  subst hp; subst hj; subst hv
  obtain ⟨cl, A, S, H⟩ := A
  exact OwF.st (fun t q => X.baloadBytes C.1 (by rw [eT]; exact A.1) (State.isArrayOf_alike C.2.2.2.2.2.2.2.alike A.2.1) A.2.2 (fun w => w.elim h0 (fun w => by omega)) (H _ hlt) (g := mkF m pc Ls (.int z :: .ref a :: r)) rfl rfl (hb C.2.1 hd) t q) k
theorem ow_iastore {z : Int32} {x : Int32} (C : OwC p Z s m meth c own nm bytes maxL ret) (X : Stand p l e R s m args below meth c T locs cells slots) (eT : T.heap = h) (A : OwA Z h a .int n f) (h0 : ¬ z < 0) (hj : z.toNatClampNeg = i) (hlt : i < n) (hd : decode bytes pc = .ok (.iastore, 1)) (hp : pc + 1 = pc')
    (k : ∀ T' h', Stand p l e R s m args below meth c T' (locs ++ [⟨a, i⟩]) cells slots → T'.heap = h' → Wr h h' a i (.int x) → OwF p e below D T' (mkF m pc' Ls r)) : OwF p e below D T (mkF m pc Ls (.int x :: .int z :: .ref a :: r)) := by
  subst hp; subst hj
  obtain ⟨cl, A, S, H⟩ := A
  obtain ⟨T', h', X', e', W', st⟩ := stI X C.1 C.2.2.2.2.2.2.2 eT A (j := z) (x := x) (fun w => w.elim h0 (fun w => by omega)) (g := mkF m pc Ls (.int x :: .int z :: .ref a :: r)) rfl rfl (hb C.2.1 hd)
  exact OwF.st st (k T' h' X' e' W')
theorem ow_lastore {z : Int32} {x : Int64} (C : OwC p Z s m meth c own nm bytes maxL ret) (X : Stand p l e R s m args below meth c T locs cells slots) (eT : T.heap = h) (A : OwA Z h a .long n f) (h0 : ¬ z < 0) (hj : z.toNatClampNeg = i) (hlt : i < n) (hd : decode bytes pc = .ok (.lastore, 1)) (hp : pc + 1 = pc')
    (k : ∀ T' h', Stand p l e R s m args below meth c T' (locs ++ [⟨a, i⟩]) cells slots → T'.heap = h' → Wr h h' a i (.long x) → OwF p e below D T' (mkF m pc' Ls r)) : OwF p e below D T (mkF m pc Ls (.long x :: .int z :: .ref a :: r)) := by
  subst hp; subst hj
  obtain ⟨cl, A, S, H⟩ := A
  obtain ⟨T', h', X', e', W', st⟩ := stJ X C.1 C.2.2.2.2.2.2.2 eT A (j := z) (x := x) (fun w => w.elim h0 (fun w => by omega)) (g := mkF m pc Ls (.long x :: .int z :: .ref a :: r)) rfl rfl (hb C.2.1 hd)
  exact OwF.st st (k T' h' X' e' W')
theorem ow_castore {z : Int32} {x : Int32} (C : OwC p Z s m meth c own nm bytes maxL ret) (X : Stand p l e R s m args below meth c T locs cells slots) (eT : T.heap = h) (A : OwA Z h a .char n f) (h0 : ¬ z < 0) (hj : z.toNatClampNeg = i) (hlt : i < n) (hd : decode bytes pc = .ok (.castore, 1)) (hp : pc + 1 = pc')
    (k : ∀ T' h', Stand p l e R s m args below meth c T' (locs ++ [⟨a, i⟩]) cells slots → T'.heap = h' → Wr h h' a i (.int (nar .char x)) → OwF p e below D T' (mkF m pc' Ls r)) : OwF p e below D T (mkF m pc Ls (.int x :: .int z :: .ref a :: r)) := by
  subst hp; subst hj
  obtain ⟨cl, A, S, H⟩ := A
  obtain ⟨T', h', X', e', W', st⟩ := stC X C.1 C.2.2.2.2.2.2.2 eT A (j := z) (x := x) (fun w => w.elim h0 (fun w => by omega)) (g := mkF m pc Ls (.int x :: .int z :: .ref a :: r)) rfl rfl (hb C.2.1 hd)
  exact OwF.st st (k T' h' X' e' W')
theorem ow_sastore {z : Int32} {x : Int32} (C : OwC p Z s m meth c own nm bytes maxL ret) (X : Stand p l e R s m args below meth c T locs cells slots) (eT : T.heap = h) (A : OwA Z h a .short n f) (h0 : ¬ z < 0) (hj : z.toNatClampNeg = i) (hlt : i < n) (hd : decode bytes pc = .ok (.sastore, 1)) (hp : pc + 1 = pc')
    (k : ∀ T' h', Stand p l e R s m args below meth c T' (locs ++ [⟨a, i⟩]) cells slots → T'.heap = h' → Wr h h' a i (.int (nar .short x)) → OwF p e below D T' (mkF m pc' Ls r)) : OwF p e below D T (mkF m pc Ls (.int x :: .int z :: .ref a :: r)) := by
  subst hp; subst hj
  obtain ⟨cl, A, S, H⟩ := A
  obtain ⟨T', h', X', e', W', st⟩ := stS X C.1 C.2.2.2.2.2.2.2 eT A (j := z) (x := x) (fun w => w.elim h0 (fun w => by omega)) (g := mkF m pc Ls (.int x :: .int z :: .ref a :: r)) rfl rfl (hb C.2.1 hd)
  exact OwF.st st (k T' h' X' e' W')
theorem ow_bastore {z : Int32} {x : Int32} (C : OwC p Z s m meth c own nm bytes maxL ret) (X : Stand p l e R s m args below meth c T locs cells slots) (eT : T.heap = h) (A : OwA Z h a .byte n f) (h0 : ¬ z < 0) (hj : z.toNatClampNeg = i) (hlt : i < n) (hd : decode bytes pc = .ok (.bastore, 1)) (hp : pc + 1 = pc')
    (k : ∀ T' h', Stand p l e R s m args below meth c T' (locs ++ [⟨a, i⟩]) cells slots → T'.heap = h' → Wr h h' a i (.int (nar .byte x)) → OwF p e below D T' (mkF m pc' Ls r)) : OwF p e below D T (mkF m pc Ls (.int x :: .int z :: .ref a :: r)) := by
  subst hp; subst hj
  obtain ⟨cl, A, S, H⟩ := A
  obtain ⟨T', h', X', e', W', st⟩ := stB X C.1 C.2.2.2.2.2.2.2 eT A (j := z) (x := x) (fun w => w.elim h0 (fun w => by omega)) (g := mkF m pc Ls (.int x :: .int z :: .ref a :: r)) rfl rfl (hb C.2.1 hd)
  exact OwF.st st (k T' h' X' e' W')
end OwnArr
section OwnRef
variable {p : Program} {l : Launch} {e : Env} {R : Room} {s : State} {m : MethodId} {args : Array Value} {below : List Frame} {meth : Method} {c : Code} {T : State} {locs : List Loc} {cells slots : Nat} {Z : State} {a0 : Array Value} {h h' : Heap}
variable {own nm : String} {bytes : ByteArray} {maxL : Nat} {ret : Option FieldType} {D : State → Outcome → Prop} {pc pc' pcT : Nat} {Ls Ls' : Array Slot} {r : List Value} {a : Addr} {K K2 : String} {index n : Nat} {v : Value} {t : FieldType}
theorem ow_retA {Q : Option Value → Heap → List Loc → Prop} {kc ks : Nat} (C : OwC p Z s m meth c own nm bytes maxL (some t)) (X : Stand p l e R s m args below meth c T locs cells slots) (hd : decode bytes pc = .ok (.areturn, 1)) (hc : cells ≤ kc) (hs : slots ≤ ks) (hv : v.isRef = true) (ht : t.isReference = true)
    (hQ : Q (some v) T.heap locs) : OwF p e below (OwD s below Q kc ks) T (mkF m pc Ls [v]) := by
  obtain ⟨hx, hby, -, -, -, hret, hlk, -⟩ := C
  obtain ⟨fs, hr, hrun, hended, hW, hsame⟩ := X.leave (v := some v) (fun h => by rw [hret] at h; cases h) hlk
  exact ⟨_, _, X.areturnOut hx hv hret ht (hb hby hd) hr, hrun, hended, _, _, rfl, hQ, ⟨_, rfl⟩, hW, hsame.mono hc hs⟩
theorem ow_instNull (C : OwC p Z s m meth c own nm bytes maxL ret) (X : Stand p l e R s m args below meth c T locs cells slots) (hd : decode bytes pc = .ok (.instanceof index, 3)) (hp : pc + 3 = pc') (k : OwF p e below D T (mkF m pc' Ls (.int 0 :: r))) : OwF p e below D T (mkF m pc Ls (.null :: r)) := by
  subst hp; exact OwF.st (fun t q => X.instanceofNull C.1 (g := mkF m pc Ls (.null :: r)) rfl rfl (hb C.2.1 hd) t q) k
theorem ow_instY (C : OwC p Z s m meth c own nm bytes maxL ret) (X : Stand p l e R s m args below meth c T locs cells slots) (eT : T.heap = h) (w : (Jvm.Cond.classLink own index K).before a0 Z = true) (F : Ins Z h a K true) (hd : decode bytes pc = .ok (.instanceof index, 3)) (hp : pc + 3 = pc')
    (k : ∀ T', Stand p l e R s m args below meth c T' locs cells slots → T'.heap = h → OwF p e below D T' (mkF m pc' Ls (.int 1 :: r))) : OwF p e below D T (mkF m pc Ls (.ref a :: r)) := by
  subst hp
  obtain ⟨T', X', e', st⟩ := instY X C.1 C.2.2.2.2.2.2.2 C.2.2.2.1 w eT F (g := mkF m pc Ls (.ref a :: r)) rfl rfl (hb C.2.1 hd)
  exact OwF.st st (k T' X' e')
theorem ow_instN (C : OwC p Z s m meth c own nm bytes maxL ret) (X : Stand p l e R s m args below meth c T locs cells slots) (eT : T.heap = h) (w : (Jvm.Cond.classLink own index K).before a0 Z = true) (E : Exa Z h a K2) (F : ∃ c t, Z.vm.findClass K2 = some c ∧ Z.vm.findClass K = some t ∧ Z.vm.assignable c t = false) (hd : decode bytes pc = .ok (.instanceof index, 3)) (hp : pc + 3 = pc')
    (k : ∀ T', Stand p l e R s m args below meth c T' locs cells slots → T'.heap = h → OwF p e below D T' (mkF m pc' Ls (.int 0 :: r))) : OwF p e below D T (mkF m pc Ls (.ref a :: r)) := by
  subst hp
  obtain ⟨T', X', e', st⟩ := instNo X C.1 C.2.2.2.2.2.2.2 C.2.2.2.1 w eT E F (g := mkF m pc Ls (.ref a :: r)) rfl rfl (hb C.2.1 hd)
  exact OwF.st st (k T' X' e')
theorem ow_cast (C : OwC p Z s m meth c own nm bytes maxL ret) (X : Stand p l e R s m args below meth c T locs cells slots) (eT : T.heap = h) (w : (Jvm.Cond.classLink own index K).before a0 Z = true) (F : Ins Z h a K true) (hd : decode bytes pc = .ok (.checkcast index, 3)) (hp : pc + 3 = pc')
    (k : ∀ T', Stand p l e R s m args below meth c T' locs cells slots → T'.heap = h → OwF p e below D T' (mkF m pc' Ls (.ref a :: r))) : OwF p e below D T (mkF m pc Ls (.ref a :: r)) := by
  subst hp
  obtain ⟨T', X', e', st⟩ := castY X C.1 C.2.2.2.2.2.2.2 C.2.2.2.1 w eT F (g := mkF m pc Ls (.ref a :: r)) rfl rfl (hb C.2.1 hd)
  exact OwF.st st (k T' X' e')
theorem ow_ifnull_n {o : Int} (C : OwC p Z s m meth c own nm bytes maxL ret) (X : Stand p l e R s m args below meth c T locs cells slots) (hd : decode bytes pc = .ok (.ifnull o, 3)) (ho : 0 ≤ (pc : Int) + o) (ht : ((pc : Int) + o).toNat = pcT) (k : OwF p e below D T (mkF m pcT Ls r)) : OwF p e below D T (mkF m pc Ls (.null :: r)) :=
  OwF.st (fun _ q => XS.ifnullYes X.here C.1 rfl rfl (hb C.2.1 hd) rfl ho ht q) k
theorem ow_ifnull_r {o : Int} (C : OwC p Z s m meth c own nm bytes maxL ret) (X : Stand p l e R s m args below meth c T locs cells slots) (hd : decode bytes pc = .ok (.ifnull o, 3)) (hp : pc + 3 = pc') (k : OwF p e below D T (mkF m pc' Ls r)) : OwF p e below D T (mkF m pc Ls (.ref a :: r)) := by
  subst hp; exact OwF.st (fun _ q => XS.ifnullNo X.here C.1 rfl (hb C.2.1 hd) rfl q) k
theorem ow_ifnonnull_n {o : Int} (C : OwC p Z s m meth c own nm bytes maxL ret) (X : Stand p l e R s m args below meth c T locs cells slots) (hd : decode bytes pc = .ok (.ifnonnull o, 3)) (hp : pc + 3 = pc') (k : OwF p e below D T (mkF m pc' Ls r)) : OwF p e below D T (mkF m pc Ls (.null :: r)) := by
  subst hp; exact OwF.st (fun _ q => XT.ifnonnullNo X.here C.1 rfl (hb C.2.1 hd) rfl q) k
theorem ow_ifnonnull_r {o : Int} (C : OwC p Z s m meth c own nm bytes maxL ret) (X : Stand p l e R s m args below meth c T locs cells slots) (hd : decode bytes pc = .ok (.ifnonnull o, 3)) (ho : 0 ≤ (pc : Int) + o) (ht : ((pc : Int) + o).toNat = pcT) (k : OwF p e below D T (mkF m pcT Ls r)) : OwF p e below D T (mkF m pc Ls (.ref a :: r)) :=
  OwF.st (fun _ q => XT.ifnonnullYes X.here C.1 rfl rfl (hb C.2.1 hd) rfl ho ht q) k
theorem ow_acmpY {cd : ClassFile.ACond} {x y : Value} {o : Int} (C : OwC p Z s m meth c own nm bytes maxL ret) (X : Stand p l e R s m args below meth c T locs cells slots) (hd : decode bytes pc = .ok (.if_acmp cd o, 3)) (hx : x.isRef = true) (hy : y.isRef = true) (hc : XT.acmp cd x y = true) (ho : 0 ≤ (pc : Int) + o) (ht : ((pc : Int) + o).toNat = pcT) (k : OwF p e below D T (mkF m pcT Ls r)) : OwF p e below D T (mkF m pc Ls (y :: x :: r)) :=
  OwF.st (fun _ q => XT.acmpYes X.here C.1 rfl rfl (hb C.2.1 hd) rfl hx hy hc ho ht q) k
theorem ow_acmpN {cd : ClassFile.ACond} {x y : Value} {o : Int} (C : OwC p Z s m meth c own nm bytes maxL ret) (X : Stand p l e R s m args below meth c T locs cells slots) (hd : decode bytes pc = .ok (.if_acmp cd o, 3)) (hx : x.isRef = true) (hy : y.isRef = true) (hc : XT.acmp cd x y = false) (hp : pc + 3 = pc') (k : OwF p e below D T (mkF m pc' Ls r)) : OwF p e below D T (mkF m pc Ls (y :: x :: r)) := by
  subst hp; exact OwF.st (fun _ q => XT.acmpNo X.here C.1 rfl (hb C.2.1 hd) rfl hx hy hc q) k
theorem ow_clone {ad : String} {cl : Cell} {cap : Nat} (C : OwC p Z s m meth c own nm bytes maxL ret) (X : Stand p l e R s m args below meth c T locs cells slots) (eT : T.heap = h)
    (w1 : (Jvm.Cond.methodLink own index ⟨ad, "clone", "()Ljava/lang/Object;"⟩).before a0 Z = true) (w2 : (Jvm.Cond.sameMethod ad "java/lang/Object" "clone" "()Ljava/lang/Object;").before a0 Z = true) (w3 : (Jvm.Cond.native ⟨"java/lang/Object", "clone", "()Ljava/lang/Object;"⟩).before a0 Z = true)
    (w4 : (Jvm.Cond.instanceMethod ⟨"java/lang/Object", "clone", "()Ljava/lang/Object;"⟩).before a0 Z = true) (w5 : (Jvm.Cond.selects ad ⟨ad, "clone", "()Ljava/lang/Object;"⟩ ⟨"java/lang/Object", "clone", "()Ljava/lang/Object;"⟩).before a0 Z = true) (w6 : (Jvm.Cond.castable ad "java/lang/Cloneable").before a0 Z = true)
    (A : Arr Z h a cl t) (E : Exa Z h a ad) (F : FitC Z cl) (hsz : Ls.size = maxL) (hd : decode bytes pc = .ok (.invokevirtual index, 3)) (hf : 1 ≤ R.frames) (hl : owCat r + 14 ≤ R.locals) (hcap : cl.slots.size ≤ cap) (hc : cells + 1 ≤ R.cells) (hsl : slots + cap ≤ R.slots) (hp : pc + 3 = pc')
    (k : ∀ T' h' b, b = h.size → Stand p l e R s m args below meth c T' locs (cells + 1) (slots + cap) → T'.heap = h' → Ext h h' → Arr Z h' b (Jvm.RoadKit.cloneOf cl) t → Exa Z h' b ad → OwF p e below D T' (mkF m pc' Ls (.ref b :: r))) : OwF p e below D T (mkF m pc Ls (.ref a :: r)) := by
  subst hp
  obtain ⟨T', h', X', e', E', A', Ex', st⟩ := cloneA X C.1 C.2.2.2.2.2.2.2 C.2.2.2.1 w1 w2 w3 w4 w5 w6 eT A E F (g := mkF m pc Ls (.ref a :: r)) rfl (by rw [C.2.2.1]; exact hsz) rfl (hb C.2.1 hd) hf (W := owCat r) (by show 2 * 0 + owCat r ≤ owCat r; omega) hl hcap hc hsl
  exact OwF.st st (k T' h' _ rfl X' e' E' A' Ex')
/-- C's chain of superclasses doesn't meet an instantiable K -/
theorem own_ns0 {O : String} (w : (Jvm.Cond.noSuperclass O).before a0 Z = true) (wk : (Jvm.Cond.instantiable K n).before a0 Z = true) (hn : O ≠ K) : NS Z O K := by
  obtain ⟨c, k, h1, h2, h3, -, -⟩ := Cond.noSuperclass_spec w
  obtain ⟨t, _, g1, -⟩ := Cond.instantiable_spec wk
  have ne := ids_ne h1 g1 hn
  refine ⟨c, t, h1, g1, fun fuel => ?_⟩
  cases fuel with
  | zero => rfl
  | succ f => simp [Vm.isSubclassAux, ne, h2, h3]
theorem own_ns1 {S : String} (w : (Jvm.Cond.superclass K2 S).before a0 Z = true) (wk : (Jvm.Cond.instantiable K n).before a0 Z = true) (q : NS Z K2 K) (hn : K2 ≠ K) : ∃ c t, Z.vm.findClass K2 = some c ∧ Z.vm.findClass K = some t ∧ Z.vm.assignable c t = false := by
  obtain ⟨c, t, h0, g0, n3⟩ := q
  obtain ⟨p, k, kp, h1, h2, h3, h4, h5, -, h7⟩ := Cond.superclass_spec h0 w
  obtain ⟨t', k', g1, g2, g5, g6, -⟩ := Cond.instantiable_spec wk
  cases g0.symm.trans g1
  have ne := ids_ne h0 g0 hn
  have g7 : k'.isInterface = false := by simp only [Bool.or_eq_false_iff] at g6; exact g6.1
  refine ⟨c, t, h0, g0, ?_⟩
  show Z.vm.assignableAux (255 + 1) c t = false
  simp [Vm.assignableAux, ne, h2, g2, h5, g5, g7, Vm.isSubclass, n3]
end OwnRef
section OwnMore
variable {p : Program} {l : Launch} {e : Env} {R : Room} {s : State} {m : MethodId} {args : Array Value} {below : List Frame} {meth : Method} {c : Code} {T : State} {locs : List Loc} {cells slots : Nat} {Z : State} {a0 : Array Value} {h h' : Heap}
variable {own nm : String} {bytes : ByteArray} {maxL : Nat} {ret : Option FieldType} {D : State → Outcome → Prop} {pc pc' pcT : Nat} {Ls Ls' : Array Slot} {r : List Value} {a b : Addr} {K K2 : String} {index n n2 kk : Nat} {v : Value} {t : FieldType} {f f2 : Nat → Value}
/-- roads that meet with unlike heaps: what holds of each -/
theorem ow_joinH {n0 CC SS : Nat} {P : Heap → Prop} {f f' : JFrame} (X : Stand p l e R s m args below meth c T locs cells slots) (A : ∀ D : State → Outcome → Prop, (∀ T' locs', Stand p l e R s m args below meth c T' locs' CC SS → Fr n0 locs' → P T'.heap → OwF p e below D T' f') → OwF p e below D T f)
    (k : ∀ T' locs', Stand p l e R s m args below meth c T' locs' CC SS → Fr n0 locs' → P T'.heap → OwF p e below D T' f') : OwF p e below D T f := A D k
/-- a private method by its contract -/
theorem ow_callR {y : MethodName} {by' : ByteArray} {mx : Nat} {rt : Option FieldType} {rm : Room} {Q : Option Value → Heap → List Loc → Prop} {stk argsL rest : List Value} {ps : List FieldType} {pr : Option FieldType}
    (C : OwC p Z s m meth c own nm bytes maxL ret) (X : Stand p l e R s m args below meth c T locs cells slots) (eT : T.heap = h)
    (w1 : (Jvm.Cond.methodLink own index y).before a0 Z = true) (w2 : (Jvm.Cond.instanceMethod y).before a0 Z = true) (wp : (Jvm.Cond.privateMethod y).before a0 Z = true) (wi : (Jvm.Cond.instantiable y.cls kk).before a0 Z = true) (w3 : (Jvm.Cond.initialized y.cls).before a0 Z = true) (w4 : (Jvm.Cond.code y by' mx rt).before a0 Z = true)
    (hy : y.cls ≠ "java/lang/invoke/MethodHandle" ∧ y.cls ≠ "java/lang/invoke/VarHandle") (E : Exa Z h a K)
    (M : OwCon l y by' mx rt rm Z (.ref a :: argsL).toArray h Q) (hds : parseMethodDescriptor y.desc = some ⟨ps, pr⟩) (hln : argsL.length = ps.length) (hst : stk = argsL.reverse ++ .ref a :: rest) (hsz : Ls.size = maxL)
    (hd : decode bytes pc = .ok (.invokevirtual index, 3)) (hfr : rm.frames + 1 ≤ R.frames) (hlo : owCat rest + (mx + 11) + rm.locals ≤ R.locals) (hcl : cells + rm.cells ≤ R.cells) (hsl : slots + rm.slots ≤ R.slots) (hp : pc + 3 = pc')
    (k : ∀ T' v L, Stand p l e R s m args below meth c T' (locs ++ L) (cells + rm.cells) (slots + rm.slots) → Q v T'.heap L → OwF p e below D T' (mkF m pc' Ls (v.toList ++ rest))) : OwF p e below D T (mkF m pc Ls stk) := by
  subst hp; subst hst
  have hZ := C.2.2.2.2.2.2.2
  obtain ⟨cc, q1, q2⟩ := E.cell
  obtain ⟨ci, ki, i1, i2, -, i4, -⟩ := Cond.instantiable_spec (mvT (args := args) hZ wi)
  have hpa : s.PrivateAt y := Cond.privateMethod_at (mvP hZ wp (args := #[]))
  obtain ⟨v, _, ⟨T', L', k', n'⟩, -, X', ⟨Lc, hQ, l', y', z'⟩, st⟩ := X.privateBack C.1 (y := y) C.2.2.2.1 (mvT hZ w1) (mvT hZ w2) (selects_self_of_private i1 i2 (Bool.or_eq_false_iff.mp i4).1 hpa (mvT hZ w2) hy) hpa (mvT hZ w4) hy (backOf (W := owCat rest) (M []) hZ w4 w3 hfr hlo) (g := mkF m pc Ls (argsL.reverse ++ .ref a :: rest)) rfl (by rw [C.2.2.1]; exact hsz) (Steps.refl _) (a := a) (by rw [eT]; exact q1) q2 (argsL := argsL) (rest := rest) (lenOf hds hln) rfl (by show 2 * 0 + owCat rest ≤ owCat rest; omega) (hb C.2.1 hd) (fun _ _ => ⟨rfl, eT, hcl, hsl⟩)
  dsimp only [Pt.U, Pt.locs, Pt.cells, Pt.slots] at X' l' y' z' st hQ
  subst l' y' z'
  exact OwF.st (fun _ q => st.trans q) (k T' v Lc X' hQ)
/-- a pure private method that returns a value -/
theorem ow_callRP {y : MethodName} {by' : ByteArray} {mx : Nat} {rt : Option FieldType} {rm : Room} {v : Value} {stk argsL rest : List Value} {ps : List FieldType} {pr : Option FieldType}
    (C : OwC p Z s m meth c own nm bytes maxL ret) (X : Stand p l e R s m args below meth c T locs cells slots) (eT : T.heap = h)
    (w1 : (Jvm.Cond.methodLink own index y).before a0 Z = true) (w2 : (Jvm.Cond.instanceMethod y).before a0 Z = true) (wp : (Jvm.Cond.privateMethod y).before a0 Z = true) (wi : (Jvm.Cond.instantiable y.cls kk).before a0 Z = true) (w3 : (Jvm.Cond.initialized y.cls).before a0 Z = true) (w4 : (Jvm.Cond.code y by' mx rt).before a0 Z = true)
    (hy : y.cls ≠ "java/lang/invoke/MethodHandle" ∧ y.cls ≠ "java/lang/invoke/VarHandle") (E : Exa Z h a K)
    (M : OwCon l y by' mx rt rm Z (.ref a :: argsL).toArray h (OwP (some v) h)) (hrm : rm.cells = 0 ∧ rm.slots = 0) (hds : parseMethodDescriptor y.desc = some ⟨ps, pr⟩) (hln : argsL.length = ps.length) (hst : stk = argsL.reverse ++ .ref a :: rest) (hsz : Ls.size = maxL)
    (hd : decode bytes pc = .ok (.invokevirtual index, 3)) (hfr : rm.frames + 1 ≤ R.frames) (hlo : owCat rest + (mx + 11) + rm.locals ≤ R.locals) (hcl : cells ≤ R.cells) (hsl : slots ≤ R.slots) (hp : pc + 3 = pc')
    (k : ∀ T', Stand p l e R s m args below meth c T' locs cells slots → T'.heap = h → OwF p e below D T' (mkF m pc' Ls (v :: rest))) : OwF p e below D T (mkF m pc Ls stk) := by
  refine ow_callR C X eT w1 w2 wp wi w3 w4 hy E M hds hln hst hsz hd hfr hlo (by rw [hrm.1]; exact hcl) (by rw [hrm.2]; exact hsl) hp fun T' v' L' X' hQ => ?_
  obtain ⟨rfl, rfl, hh⟩ := hQ
  rw [hrm.1, hrm.2, List.append_nil] at X'
  exact k T' X' hh
/-- a pure private method that returns nothing -/
theorem ow_callRN {y : MethodName} {by' : ByteArray} {mx : Nat} {rt : Option FieldType} {rm : Room} {stk argsL rest : List Value} {ps : List FieldType} {pr : Option FieldType}
    (C : OwC p Z s m meth c own nm bytes maxL ret) (X : Stand p l e R s m args below meth c T locs cells slots) (eT : T.heap = h)
    (w1 : (Jvm.Cond.methodLink own index y).before a0 Z = true) (w2 : (Jvm.Cond.instanceMethod y).before a0 Z = true) (wp : (Jvm.Cond.privateMethod y).before a0 Z = true) (wi : (Jvm.Cond.instantiable y.cls kk).before a0 Z = true) (w3 : (Jvm.Cond.initialized y.cls).before a0 Z = true) (w4 : (Jvm.Cond.code y by' mx rt).before a0 Z = true)
    (hy : y.cls ≠ "java/lang/invoke/MethodHandle" ∧ y.cls ≠ "java/lang/invoke/VarHandle") (E : Exa Z h a K)
    (M : OwCon l y by' mx rt rm Z (.ref a :: argsL).toArray h (OwP none h)) (hrm : rm.cells = 0 ∧ rm.slots = 0) (hds : parseMethodDescriptor y.desc = some ⟨ps, pr⟩) (hln : argsL.length = ps.length) (hst : stk = argsL.reverse ++ .ref a :: rest) (hsz : Ls.size = maxL)
    (hd : decode bytes pc = .ok (.invokevirtual index, 3)) (hfr : rm.frames + 1 ≤ R.frames) (hlo : owCat rest + (mx + 11) + rm.locals ≤ R.locals) (hcl : cells ≤ R.cells) (hsl : slots ≤ R.slots) (hp : pc + 3 = pc')
    (k : ∀ T', Stand p l e R s m args below meth c T' locs cells slots → T'.heap = h → OwF p e below D T' (mkF m pc' Ls rest)) : OwF p e below D T (mkF m pc Ls stk) := by
  refine ow_callR C X eT w1 w2 wp wi w3 w4 hy E M hds hln hst hsz hd hfr hlo (by rw [hrm.1]; exact hcl) (by rw [hrm.2]; exact hsl) hp fun T' v' L' X' hQ => ?_
  obtain ⟨rfl, rfl, hh⟩ := hQ
  rw [hrm.1, hrm.2, List.append_nil] at X'
  exact k T' X' hh
/-- the array at a is of a class whose places take a C, itself an array class over ty -/
def OwOv (Z : State) (h : Heap) (a : Addr) (ty : FieldType) (C : String) : Prop := ∃ c : Cell, h[a]? = some c ∧ OvrA Z c.cls ty C
theorem OwOv.ext {C : String} (O : OwOv Z h a t C) (E : Ext h h') : OwOv Z h' a t C := by obtain ⟨c, q, o⟩ := O; exact ⟨c, E.2 _ _ q, o⟩
theorem OwOv.wr {C : String} {sl : Nat} (O : OwOv Z h a t C) (W : Wr h h' b sl v) : OwOv Z h' a t C := by
  obtain ⟨c, q, o⟩ := O
  obtain ⟨c', e1, e2, -⟩ := wr_at W q
  exact ⟨c', e1, by rw [e2]; exact o⟩
theorem OwOv.keep {C : String} {ws : List Addr} (O : OwOv Z h a t C) (K : Keep h h' ws) : OwOv Z h' a t C := by
  obtain ⟨c, q, o⟩ := O
  obtain ⟨c', e1, e2, -⟩ := K.2.2 _ _ q
  exact ⟨c', e1, by rw [e2]; exact o⟩
theorem OwOv.sto {C : String} {ty : FieldType} (O : OwOv Z h a ty C) (A : OwA Z h a t n f) (I : Ins Z h b C true) : Sto Z h a (.ref b) := by
  obtain ⟨c, q, o⟩ := O
  obtain ⟨c', A', -⟩ := A
  cases q.symm.trans A'.1
  exact Sto.ofVA A' rfl o I
/-- a new array of arrays -/
theorem ow_anewA {K ad : String} {ty : FieldType} {z : Int32} {N cap : Nat} (C : OwC p Z s m meth c own nm bytes maxL ret) (X : Stand p l e R s m args below meth c T locs cells slots) (eT : T.heap = h) (hC : (FieldType.array ty).toString = K) (had : "[" ++ K = ad) (w : (Jvm.Cond.classLink own index K).before a0 Z = true) (w2 : (Jvm.Cond.arrayOver (.array ty)).before a0 Z = true) (hd : decode bytes pc = .ok (.anewarray index, 3))
    (hn : ¬ z < 0) (hN : z.toNatClampNeg = N) (hcap : N ≤ cap) (hb8 : cap * 8 ≤ 536870912) (hc : cells + 1 ≤ R.cells) (hl : slots + cap ≤ R.slots) (hp : pc + 3 = pc')
    (k : ∀ T' h' a, a = h.size → Stand p l e R s m args below meth c T' locs (cells + 1) (slots + cap) → T'.heap = h' → Ext h h' → OwA Z h' a (.array ty) N (fun _ => .null) → Exa Z h' a ad → OwOv Z h' a ty K → OwF p e below D T' (mkF m pc' Ls (.ref a :: r))) : OwF p e below D T (mkF m pc Ls (.int z :: r)) := by
  subst hp; subst hN
  obtain ⟨T', h', cA, X', e', E', A', Ex', O', st⟩ := newRA X C.1 C.2.2.2.2.2.2.2 C.2.2.2.1 hC w w2 eT (g := mkF m pc Ls (.int z :: r)) rfl (hb C.2.1 hd) rfl hn hcap hb8 hc hl had
  exact OwF.st st (k T' h' _ rfl X' e' E' (OwA.new A') Ex' ⟨_, A'.1, O'⟩)
/-- a new array of a primitive kind, its class told -/
theorem ow_newarrE {aty : ArrayType} {ad : String} {z : Int32} {N cap : Nat} (C : OwC p Z s m meth c own nm bytes maxL ret) (X : Stand p l e R s m args below meth c T locs cells slots) (eT : T.heap = h) (had : "[" ++ (newarray.typeOf aty).toString = ad) (w : (Jvm.Cond.arrayClass (newarray.typeOf aty)).before a0 Z = true) (hd : decode bytes pc = .ok (.newarray aty, 2))
    (hn : ¬ z < 0) (hN : z.toNatClampNeg = N) (hcap : N ≤ cap) (hb8 : cap * 8 ≤ 536870912) (hc : cells + 1 ≤ R.cells) (hl : slots + cap ≤ R.slots) (hp : pc + 2 = pc')
    (k : ∀ T' h' a, a = h.size → Stand p l e R s m args below meth c T' locs (cells + 1) (slots + cap) → T'.heap = h' → Ext h h' → OwA Z h' a (newarray.typeOf aty) N (fun _ => defaultValue (newarray.typeOf aty)) → Exa Z h' a ad → OwF p e below D T' (mkF m pc' Ls (.ref a :: r))) : OwF p e below D T (mkF m pc Ls (.int z :: r)) := by
  subst hp; subst hN
  obtain ⟨T', h', cA, X', e', E', A', Ex', st⟩ := newPE X C.1 C.2.2.2.2.2.2.2 w eT (g := mkF m pc Ls (.int z :: r)) rfl (hb C.2.1 hd) rfl hn hcap hb8 hc hl had
  exact OwF.st st (k T' h' _ rfl X' e' E' (OwA.new A') Ex')
theorem ow_aastore {z : Int32} {i : Nat} (C : OwC p Z s m meth c own nm bytes maxL ret) (X : Stand p l e R s m args below meth c T locs cells slots) (eT : T.heap = h) (A : OwA Z h a t n f) (hty : t.isReference = true) (S : Sto Z h a v) (h0 : ¬ z < 0) (hj : z.toNatClampNeg = i) (hlt : i < n) (hd : decode bytes pc = .ok (.aastore, 1)) (hp : pc + 1 = pc')
    (k : ∀ T' h', Stand p l e R s m args below meth c T' (locs ++ [⟨a, i⟩]) cells slots → T'.heap = h' → Wr h h' a i v → OwF p e below D T' (mkF m pc' Ls r)) : OwF p e below D T (mkF m pc Ls (v :: .int z :: .ref a :: r)) := by
  subst hp; subst hj
  obtain ⟨cl, A, S', H⟩ := A
  obtain ⟨T', h', X', e', W', st⟩ := stR X C.1 C.2.2.2.2.2.2.2 eT A (j := z) (v := v) (fun w => w.elim h0 (fun w => by omega)) hty S (g := mkF m pc Ls (v :: .int z :: .ref a :: r)) rfl rfl (hb C.2.1 hd)
  exact OwF.st st (k T' h' X' e' W')
theorem own_getD {n k : Nat} {f : Nat → Value} {d : Value} (h : k < n) : ((List.range n).map f).getD k d = f k := by
  rw [List.getD_eq_getElem?_getD, List.getElem?_map, List.getElem?_range h]; rfl
theorem OwA.arv {z : Int32} (A : OwA Z h a t n f) (hz : z.toNatClampNeg = n) (h0 : ¬ z < 0) (hf : ∀ j, j < n → fits t (f j) = true) (d : Value) : ∃ k, Arv Z h a k t z ((List.range n).map f) d := by
  obtain ⟨c, A, S, H⟩ := A
  exact ⟨c.cls, c, A, rfl, by rw [S, hz], h0, fun k hk => by rw [own_getD (by omega)]; exact H k (by omega), fun k hk => by rw [own_getD (by omega)]; exact hf k (by omega)⟩
/-- System.arraycopy of a primitive kind -/
theorem ow_acopy {zs zd sp dp nn : Int32} {si di ni n0 : Nat} (C : OwC p Z s m meth c own nm bytes maxL ret) (X : Stand p l e R s m args below meth c T locs cells slots) (eT : T.heap = h)
    (w1 : (Jvm.Cond.methodLink own index Jvm.Stand.acN).before a0 Z = true) (w2 : (Jvm.Cond.native Jvm.Stand.acN).before a0 Z = true) (w3 : (Jvm.Cond.static Jvm.Stand.acN).before a0 Z = true) (w4 : (Jvm.Cond.initialized "java/lang/System").before a0 Z = true)
    (A : OwA Z h a t n f) (B : OwA Z h b t n2 f2) (hty : refKind t = false) (hfa : ∀ j, j < n → fits t (f j) = true) (hfb : ∀ j, j < n2 → fits t (f2 j) = true) (hzs : zs.toNatClampNeg = n ∧ ¬ zs < 0) (hzd : zd.toNatClampNeg = n2 ∧ ¬ zd < 0)
    (hs0 : ¬ sp < 0) (hs : sp.toNatClampNeg = si) (hd0 : ¬ dp < 0) (hdd : dp.toNatClampNeg = di) (hn0 : ¬ nn < 0) (hnn : nn.toNatClampNeg = ni) (hb1 : si + ni ≤ n) (hb2 : di + ni ≤ n2) (N : Fr n0 locs) (ge : n0 ≤ b) (hsz : Ls.size = maxL) (hd : decode bytes pc = .ok (.invokestatic index, 3))
    (hfr : 1 ≤ R.frames) (hlo : owCat r + (nativeFrameWords "java/lang/System" "arraycopy" 5 + 11) ≤ R.locals) (hp : pc + 3 = pc')
    (k : ∀ T' h' L, Stand p l e R s m args below meth c T' L cells slots → T'.heap = h' → Fr n0 L → Keep h h' [b] → OwA Z h' b t n2 (fun j => if di ≤ j ∧ j < di + ni then f (si + (j - di)) else f2 j) → OwF p e below D T' (mkF m pc' Ls r)) : OwF p e below D T (mkF m pc Ls (.int nn :: .int dp :: .ref b :: .int sp :: .ref a :: r)) := by
  subst hp; subst hs; subst hdd; subst hnn
  obtain ⟨ka, VA⟩ := A.arv hzs.1 hzs.2 hfa .null
  obtain ⟨kb, VB⟩ := B.arv hzd.1 hzd.2 hfb .null
  obtain ⟨T', h', L', X', e', N', K', V', st⟩ := cpA X C.1 C.2.2.2.2.2.2.2 C.2.2.2.1 w1 w2 w3 w4 eT VA VB (Or.inl ⟨rfl, hty⟩) hs0 hd0 hn0 (by rw [hzs.1]; exact hb1) (by rw [hzd.1]; exact hb2) rfl (by rw [List.length_map, List.length_range]; exact hb2) N ge (g := mkF m pc Ls (.int nn :: .int dp :: .ref b :: .int sp :: .ref a :: r)) rfl (by rw [C.2.2.1]; exact hsz) rfl (hb C.2.1 hd) hfr (W := owCat r) (by show 2 * 0 + owCat r ≤ owCat r; omega) hlo
  refine OwF.st st (k T' h' L' X' e' N' K' ?_)
  obtain ⟨c', A', -, S', -, H', -⟩ := V'
  refine ⟨c', A', by rw [S']; exact hzd.1, fun j hj => ?_⟩
  rw [H' j (by rw [S', hzd.1]; exact hj)]
  congr 1
  dsimp only
  rw [List.getD_eq_getElem?_getD]
  by_cases q1 : j < dp.toNatClampNeg
  · rw [if_neg (by omega), List.append_assoc, List.getElem?_append_left (by rw [List.length_take, List.length_map, List.length_range]; omega), List.getElem?_take_of_lt q1, ← List.getD_eq_getElem?_getD, own_getD hj]
  · have hlt : ((List.take dp.toNatClampNeg ((List.range n2).map f2))).length = dp.toNatClampNeg := by rw [List.length_take, List.length_map, List.length_range]; omega
    rw [List.append_assoc, List.getElem?_append_right (by omega), hlt]
    by_cases q2 : j < dp.toNatClampNeg + nn.toNatClampNeg
    · rw [if_pos ⟨by omega, q2⟩, List.getElem?_append_left (by rw [List.length_map, List.length_range]; omega), ← List.getD_eq_getElem?_getD, own_getD (by omega), own_getD (by omega)]
    · rw [if_neg (by omega), List.getElem?_append_right (by rw [List.length_map, List.length_range]; omega), List.length_map, List.length_range, List.getElem?_drop, ← List.getD_eq_getElem?_getD, show dp.toNatClampNeg + nn.toNatClampNeg + (j - dp.toNatClampNeg - nn.toNatClampNeg) = j from by omega, own_getD hj]
end OwnMore
theorem own_nm {a b : Addr} (h : a ≠ b) : a ∉ [b] := fun q => h (List.mem_singleton.mp q)
theorem own_nm1 {a b : Addr} (h : a ≠ b) : a ∉ [b] := fun q => h (List.mem_singleton.mp q)
theorem own_nm2 {a b c : Addr} (h : a ≠ b) (h2 : a ≠ c) : a ∉ [b, c] := fun q => by simp only [List.mem_cons, List.not_mem_nil, or_false] at q; exact q.elim h h2
theorem own_kt {n : Nat} {a : Addr} {ws : List Addr} (h : n ≤ a) : ∀ x ∈ [a], x ∈ ws ∨ n ≤ x := fun x q => by cases List.mem_singleton.mp q; exact Or.inr h
theorem own_nil {a : Addr} : a ∉ ([] : List Addr) := fun q => nomatch q
theorem own_all0 {n : Nat} : ∀ x ∈ ([] : List Addr), n ≤ x := fun x q => nomatch q
theorem own_all1 {n : Nat} {a : Addr} (h : n ≤ a) : ∀ x ∈ [a], n ≤ x := fun x q => by cases List.mem_singleton.mp q; exact h
/-! walks that may load a String constant cold: the base is the start with the tables at hand (s.setVm vm0); the end is said of the true start -/
section OwnCold
open Bundle Jvm.Free.Exc
variable {p : Program} {l : Launch} {e : Env} {R : Room} {s : State} {m : MethodId} {args : Array Value} {below : List Frame} {meth : Method} {c : Code} {T : State} {locs : List Loc} {cells slots : Nat} {Z : State} {a0 : Array Value} {h : Heap}
variable {own nm : String} {bytes : ByteArray} {maxL : Nat} {ret : Option FieldType} {D : State → Outcome → Prop} {pc pc' : Nat} {Ls : Array Slot} {r : List Value} {vm0 : Vm} {k0 : Nat} {kn : Bool} {v : Value} {t : FieldType}
def OwDW (s : State) (below : List Frame) (Q : Option Value → Heap → List Loc → Prop) (kc ks : Nat) (t : State) (o : Outcome) : Prop :=
  t.status = .running ∧ Ended t below o ∧ ∃ v L, o = .returned v ∧ Q v t.heap L ∧ ReturnedEndW s o t L kc ks
/-- what is known of the tables and of the frames beneath, where it is asked (kn) -/
def OwKn (kn : Bool) (vm : Vm) (bl : List Frame) : Prop := kn = true → vm.MethodsKnown ∧ vm.FramesKnown bl
theorem OwKn.warm {vm1 : Vm} (K : OwKn kn s.vm below) (h : s.Warmed39 vm1) : OwKn kn vm1 below := fun q => ⟨(K q).1.alikeC h.alike, (K q).2.alikeC h.alike⟩
def OwConW (kn : Bool) (l : Launch) (y : MethodName) (bytes : ByteArray) (maxL : Nat) (ret : Option FieldType) (rm : Room) (Z : State) (as' : Array Value) (h : Heap) (Q : Option Value → Heap → List Loc → Prop) : Prop :=
  ∀ ws, MetFree l y (head1 (Jvm.Cond.code y bytes maxL ret :: ws) rm) (fun a U => a = as' ∧ Z.Warmed39 U.vm ∧ U.heap = h) (fun _ _ bl U _ => OwKn kn U.vm bl) (fun _ U o U' => ∃ v L, o = .returned v ∧ Q v U'.heap L ∧ ReturnedEndW U o U' L rm.cells rm.slots)
theorem own_since (s : State) : s.Since s.vm s.heap.size := State.WarmedH.since (State.WarmedH.refl s) _
theorem OwConW.of {y : MethodName} {rm : Room} {as' : Array Value} {Q : Option Value → Heap → List Loc → Prop} (hpl : plainFor y = true) {Ls : Array Slot} (hent : ∀ m, entryFrame m as' maxL = mkF m 0 Ls [])
    (body : ∀ (p : Program) (e : Env) (s : State) (m : MethodId) (below : List Frame) (meth : Method) (c : Code) (s₁ : State), OwKn kn s.vm below → OwC p Z s m meth c y.cls y.name bytes maxL ret → Stand p l e rm s m as' below meth c s₁ [] 0 0 → s₁.heap = h → s.heap = h → s.Since s.vm s.heap.size → OwF p e below (OwDW s below Q rm.cells rm.slots) s₁ (mkF m 0 Ls [])) :
    OwConW kn l y bytes maxL ret rm Z as' h Q := by
  intro ws
  refine MetFree.of_bodySF hpl hisR ?_
  intro p e s m args below meth c s₁ Bd hml0 hP hK
  obtain ⟨rfl, hZ, hh⟩ := hP
  have X0 : Stand p l e rm s m args below meth c s₁ [] 0 0 := Stand.of_body Bd
  obtain ⟨t, o, h1, h2, h3, h4⟩ := body p e s m below meth c s₁ hK ⟨Bd.exec, Bd.bytes, hml0, findClass_of_methodNamed Bd.named, (name_of_methodNamed Bd.named Bd.method).1, Bd.returns, BodyLoose.notSynchronized Bd, hZ⟩ X0 (by rw [← hh, Bd.state]; rfl) hh (own_since s)
  exact ⟨t, o, castTop (hent m) h1, h2, h3, h4⟩
theorem OwConW.mono {y : MethodName} {rm : Room} {as' : Array Value} {Q Q' : Option Value → Heap → List Loc → Prop} (M : OwConW kn l y bytes maxL ret rm Z as' h Q) (hq : ∀ v h' L, Q v h' L → Q' v h' L) : OwConW kn l y bytes maxL ret rm Z as' h Q' := by
  intro ws p e ha hc hk s m args below hf happ hP hK
  obtain ⟨n, o, h1, h2, h3, v, L, h4, h5, h6⟩ := M ws p e ha hc hk s m args below hf happ hP hK
  exact ⟨n, o, h1, h2, h3, v, L, h4, hq _ _ _ h5, h6⟩
/-- a contract that interns nothing is one that may -/
theorem OwCon.wide {y : MethodName} {rm : Room} {as' : Array Value} {Q : Option Value → Heap → List Loc → Prop} (M : OwCon l y bytes maxL ret rm Z as' h Q) : OwConW kn l y bytes maxL ret rm Z as' h Q := by
  intro ws p e ha hc hk s m args below hf happ hP hK
  obtain ⟨n, o, h1, h2, h3, v, L, h4, h5, h6⟩ := M ws p e ha hc hk s m args below hf happ hP trivial
  exact ⟨n, o, h1, h2, h3, v, L, h4, h5, ReturnedEndW.of_narrow h6.1 h6.2.1 h6.2.2⟩
theorem own_backW {y : MethodName} {rm : Room} {len W : Nat} {as' : Array Value} {Q : Option Value → Heap → List Loc → Prop} (hM : OwConW kn l y bytes maxL ret rm Z as' h Q)
    (hZ : Z.Warmed39 s.vm) (wc : (Jvm.Cond.code y bytes maxL ret).before a0 Z = true) (wz : (Jvm.Cond.initialized y.cls).before a0 Z = true) (hf : rm.frames + 1 ≤ R.frames) (hl : W + (maxL + 11) + rm.locals ≤ R.locals) (hTK : OwKn kn s.vm below) :
    BackS l R p e below s args y len W (fun A a => a = as' ∧ A.U.heap = h ∧ A.cells + rm.cells ≤ R.cells ∧ A.slots + rm.slots ≤ R.slots)
      (fun A _ v B => ∃ L, Q v B.U.heap L ∧ B.locs = A.locs ++ L ∧ B.cells = A.cells + rm.cells ∧ B.slots = A.slots + rm.slots) :=
  BackS.of_freeWG (bytes := bytes) (maxL := maxL) (ret := ret) (E := fun _ _ o t L k n => k = rm.cells ∧ n = rm.slots ∧ ∃ v, o = .returned v ∧ Q v t.heap L) (hM []) hf hl
    (fun m meth c A a Y hp => have hU : Z.Warmed39 A.U.vm := wtrans hZ Y.warmed
      ⟨by show (Jvm.Cond.and _ .tt).before a A.U = true; rw [Cond.before_and, mv hU wc]; rfl, mv hU wc, mv hU wz, hp.2.2.1, hp.2.2.2⟩)
    (fun m meth c A a g mk Y hp => ⟨hp.1, wtrans hZ Y.warmed, hp.2.1⟩) (fun m meth c A a g mk Y hp hg q => known_frames Y hg (hTK q).1 (hTK q).2)
    (fun _ _ _ _ ⟨v, L, h1, h2, h3⟩ => ⟨L, _, _, h3, rfl, rfl, v, h1, h2⟩)
    (fun m meth c A a g mk v t L k n Y hp _ _ ⟨e1, e2, v', e3, e4⟩ => by cases e3; subst e1 e2; exact ⟨L, e4, rfl, rfl, rfl⟩)
/-- the setting, over other tables -/
theorem OwC.rebase {vm1 : Vm} (C : OwC p Z s m meth c own nm bytes maxL ret) (hW : s.Warmed39 vm1) : OwC p Z (s.setVm vm1) m meth c own nm bytes maxL ret :=
  ⟨C.1, C.2.1, C.2.2.1, by rw [show (s.setVm vm1).vm = vm1 from rfl, hW.alike.findClass]; exact C.2.2.2.1, C.2.2.2.2.1, C.2.2.2.2.2.1, C.2.2.2.2.2.2.1, State.Warmed39.trans C.2.2.2.2.2.2.2 hW⟩
/-- a constructor that may intern -/
theorem ow_callNW {index : Nat} {y : MethodName} {by' : ByteArray} {mx : Nat} {rm : Room} {Q : Option Value → Heap → List Loc → Prop} {stk argsL rest : List Value} {ps : List FieldType} {pr : Option FieldType} {a : Addr}
    (C : OwC p Z (s.setVm vm0) m meth c own nm bytes maxL ret) (hTK : OwKn kn vm0 below) (hS : s.Since vm0 k0) (X : Stand p l e R (s.setVm vm0) m args below meth c T locs cells slots) (eT : T.heap = h) (hk : k0 ≤ h.size) (hni : y.name = "<init>")
    (w1 : (Jvm.Cond.methodLink own index y).before a0 Z = true) (w2 : (Jvm.Cond.instanceMethod y).before a0 Z = true) (w3 : (Jvm.Cond.initialized y.cls).before a0 Z = true) (w4 : (Jvm.Cond.code y by' mx none).before a0 Z = true) (hy : y.cls ≠ "java/lang/invoke/MethodHandle" ∧ y.cls ≠ "java/lang/invoke/VarHandle")
    (M : OwConW kn l y by' mx none rm Z (.ref a :: argsL).toArray h Q) (hds : parseMethodDescriptor y.desc = some ⟨ps, pr⟩) (hln : argsL.length = ps.length) (hst : stk = argsL.reverse ++ .ref a :: rest) (hsz : Ls.size = maxL)
    (hd : decode bytes pc = .ok (.invokespecial index, 3)) (hfr : rm.frames + 1 ≤ R.frames) (hlo : owCat rest + (mx + 11) + rm.locals ≤ R.locals) (hcl : cells + rm.cells ≤ R.cells) (hsl : slots + rm.slots ≤ R.slots) (hp : pc + 3 = pc')
    (k : ∀ T' v L, OwC p Z (s.setVm T'.vm) m meth c own nm bytes maxL ret → OwKn kn T'.vm below → s.Since T'.vm T'.heap.size → Stand p l e R (s.setVm T'.vm) m args below meth c T' (locs ++ L) (cells + rm.cells) (slots + rm.slots) → Q v T'.heap L → OwF p e below D T' (mkF m pc' Ls (v.toList ++ rest))) : OwF p e below D T (mkF m pc Ls stk) := by
  subst hp; subst hst
  have hZ := C.2.2.2.2.2.2.2
  obtain ⟨v, _, ⟨T', L', k', n'⟩, -, X', hS', hg, ⟨Lc, hQ, l', y', z'⟩, st⟩ := X.specialBackS C.1 (y := y) hni C.2.2.2.1 (mvT hZ w1) (mvT hZ w2) (mvT hZ w4) hy (own_backW (W := owCat rest) M hZ w4 w3 hfr hlo hTK) (g := mkF m pc Ls (argsL.reverse ++ .ref a :: rest)) rfl (by rw [C.2.2.1]; exact hsz) (Steps.refl _) (a := a) (argsL := argsL) (rest := rest) (lenOf hds hln) rfl (by show 2 * 0 + owCat rest ≤ owCat rest; omega) (hb C.2.1 hd) (fun _ _ => ⟨rfl, eT, hcl, hsl⟩)
  dsimp only [Pt.U, Pt.locs, Pt.cells, Pt.slots] at X' l' y' z' st hQ hS' hg
  subst l' y' z'
  exact OwF.st (fun _ q => st.trans q) (k T' v Lc (C.rebase hS'.1) (OwKn.warm (s := s.setVm vm0) hTK hS'.1) (hS.trans hS' (Nat.le_trans hk (by rw [← eT]; exact hg))) X' hQ)
/-- a static method that may intern -/
theorem ow_callSW {index : Nat} {y : MethodName} {by' : ByteArray} {mx : Nat} {rt : Option FieldType} {rm : Room} {Q : Option Value → Heap → List Loc → Prop} {stk argsL rest : List Value} {ps : List FieldType} {pr : Option FieldType}
    (C : OwC p Z (s.setVm vm0) m meth c own nm bytes maxL ret) (hTK : OwKn kn vm0 below) (hS : s.Since vm0 k0) (X : Stand p l e R (s.setVm vm0) m args below meth c T locs cells slots) (eT : T.heap = h) (hk : k0 ≤ h.size)
    (w1 : (Jvm.Cond.methodLink own index y).before a0 Z = true) (w2 : (Jvm.Cond.static y).before a0 Z = true) (w3 : (Jvm.Cond.initialized y.cls).before a0 Z = true) (w4 : (Jvm.Cond.code y by' mx rt).before a0 Z = true) (hy : y.cls ≠ "java/lang/invoke/MethodHandle" ∧ y.cls ≠ "java/lang/invoke/VarHandle")
    (M : OwConW kn l y by' mx rt rm Z argsL.toArray h Q) (hds : parseMethodDescriptor y.desc = some ⟨ps, pr⟩) (hln : argsL.length = ps.length) (hst : stk = argsL.reverse ++ rest) (hsz : Ls.size = maxL)
    (hd : decode bytes pc = .ok (.invokestatic index, 3)) (hfr : rm.frames + 1 ≤ R.frames) (hlo : owCat rest + (mx + 11) + rm.locals ≤ R.locals) (hcl : cells + rm.cells ≤ R.cells) (hsl : slots + rm.slots ≤ R.slots) (hp : pc + 3 = pc')
    (k : ∀ T' v L, OwC p Z (s.setVm T'.vm) m meth c own nm bytes maxL ret → OwKn kn T'.vm below → s.Since T'.vm T'.heap.size → Stand p l e R (s.setVm T'.vm) m args below meth c T' (locs ++ L) (cells + rm.cells) (slots + rm.slots) → Q v T'.heap L → OwF p e below D T' (mkF m pc' Ls (v.toList ++ rest))) : OwF p e below D T (mkF m pc Ls stk) := by
  subst hp; subst hst
  have hZ := C.2.2.2.2.2.2.2
  obtain ⟨v, _, ⟨T', L', k', n'⟩, -, X', hS', hg, ⟨Lc, hQ, l', y', z'⟩, st⟩ := callSS X C.1 (y := y) C.2.2.2.1 (mvT hZ w1) (mvT hZ w2) (mvT hZ w3) (mvT hZ w4) hy (own_backW (W := owCat rest) M hZ w4 w3 hfr hlo hTK) (g := mkF m pc Ls (argsL.reverse ++ rest)) rfl (by rw [C.2.2.1]; exact hsz) (argsL := argsL) (rest := rest) (lenOf hds hln) rfl (by show 2 * 0 + owCat rest ≤ owCat rest; omega) (hb C.2.1 hd) (fun _ _ => ⟨rfl, eT, hcl, hsl⟩)
  dsimp only [Pt.U, Pt.locs, Pt.cells, Pt.slots] at X' l' y' z' st hQ hS' hg
  subst l' y' z'
  exact OwF.st (fun _ q => st.trans q) (k T' v Lc (C.rebase hS'.1) (OwKn.warm (s := s.setVm vm0) hTK hS'.1) (hS.trans hS' (Nat.le_trans hk (by rw [← eT]; exact hg))) X' hQ)
/-- a String constant, its text not read -/
theorem ow_ldcS {index n : Nat} {text : String} (C : OwC p Z (s.setVm vm0) m meth c own nm bytes maxL ret) (hTK : OwKn kn vm0 below) (hS : s.Since vm0 k0) (X : Stand p l e R (s.setVm vm0) m args below meth c T locs cells slots) (eT : T.heap = h) (hk : k0 ≤ h.size)
    (w : (Jvm.Cond.stringLink own index text).before a0 Z = true) (wS : ∀ a ∈ Bundle.stringAtoms, a.before a0 Z = true) (hd : decode bytes pc = .ok (.ldc index, 2)) (hn : 4 * text.toList.length ≤ n) (hbig : n ≤ 536870912) (hc : cells + 2 ≤ R.cells) (hl : slots + (n + 4) ≤ R.slots) (hp : pc + 2 = pc')
    (k : ∀ a T' h' k1, OwC p Z (s.setVm T'.vm) m meth c own nm bytes maxL ret → OwKn kn T'.vm below → s.Since T'.vm k1 → Stand p l e R (s.setVm T'.vm) m args below meth c T' locs (cells + 2) (slots + (n + 4)) → T'.heap = h' → Ext h h' → k1 ≤ h'.size → OwF p e below D T' (mkF m pc' Ls (.ref a :: r))) : OwF p e below D T (mkF m pc Ls r) := by
  subst hp
  obtain ⟨a, T', h', k1, X', e', E', hS', hk', hZ', hf', st⟩ := ldcS X C.1 C.2.2.2.2.2.2.2 C.2.2.2.1 w wS eT hS hk (g := mkF m pc Ls r) rfl (hb C.2.1 hd) hn hbig hc hl
  have hal : vm0.Alike T'.vm := (Vm.Alike.symm hS.1.alike).trans hS'.1.alike
  exact OwF.st st (k a T' h' k1 ⟨C.1, C.2.1, C.2.2.1, hf', C.2.2.2.2.1, C.2.2.2.2.2.1, C.2.2.2.2.2.2.1, hZ'⟩ (fun q => ⟨(hTK q).1.alikeC hal, (hTK q).2.alikeC hal⟩) hS' X' e' E' hk')
theorem ow_retVW {Q : Option Value → Heap → List Loc → Prop} {kc ks : Nat} (C : OwC p Z (s.setVm vm0) m meth c own nm bytes maxL none) (hS : s.Since vm0 k0) (X : Stand p l e R (s.setVm vm0) m args below meth c T locs cells slots) (hk : k0 ≤ T.heap.size) (hd : decode bytes pc = .ok (.return_, 1)) (hc : cells ≤ kc) (hs : slots ≤ ks)
    (hQ : Q none T.heap locs) : OwF p e below (OwDW s below Q kc ks) T (mkF m pc Ls []) := by
  obtain ⟨hx, hby, -, -, -, hret, hlk, -⟩ := C
  obtain ⟨fs, hr, hrun, hended, h1, h2, h3, h4⟩ := X.leaveW hS hk (v := none) (fun _ => rfl) hlk
  exact ⟨_, _, X.returnOut hx hret (hb hby hd) hr, hrun, hended, _, _, rfl, hQ, h1, h2, h3, h4.mono hc hs⟩
theorem ow_retZW {Q : Option Value → Heap → List Loc → Prop} {kc ks : Nat} {z : Int32} (C : OwC p Z (s.setVm vm0) m meth c own nm bytes maxL (some .boolean)) (hS : s.Since vm0 k0) (X : Stand p l e R (s.setVm vm0) m args below meth c T locs cells slots) (hk : k0 ≤ T.heap.size) (hd : decode bytes pc = .ok (.ireturn, 1)) (hc : cells ≤ kc) (hs : slots ≤ ks) (hz : z = 0 ∨ z = 1)
    (hQ : Q (some (.int z)) T.heap locs) : OwF p e below (OwDW s below Q kc ks) T (mkF m pc Ls (.int z :: r)) := by
  obtain ⟨hx, hby, -, -, -, hret, hlk, -⟩ := C
  have hn : nar .boolean z = z := by rcases hz with rfl | rfl <;> decide
  obtain ⟨fs, hr, hrun, hended, h1, h2, h3, h4⟩ := X.leaveW hS hk (v := some (.int z)) (fun h => by rw [hret] at h; cases h) hlk
  exact ⟨_, _, retN X hx hret (by simp) (hb hby hd) (by rw [hn]; exact hr), hrun, hended, _, _, rfl, hQ, h1, h2, h3, h4.mono hc hs⟩
theorem ow_retAW {Q : Option Value → Heap → List Loc → Prop} {kc ks : Nat} (C : OwC p Z (s.setVm vm0) m meth c own nm bytes maxL (some t)) (hS : s.Since vm0 k0) (X : Stand p l e R (s.setVm vm0) m args below meth c T locs cells slots) (hk : k0 ≤ T.heap.size) (hd : decode bytes pc = .ok (.areturn, 1)) (hc : cells ≤ kc) (hs : slots ≤ ks) (hv : v.isRef = true) (ht : t.isReference = true)
    (hQ : Q (some v) T.heap locs) : OwF p e below (OwDW s below Q kc ks) T (mkF m pc Ls [v]) := by
  obtain ⟨hx, hby, -, -, -, hret, hlk, -⟩ := C
  obtain ⟨fs, hr, hrun, hended, h1, h2, h3, h4⟩ := X.leaveW hS hk (v := some v) (fun h => by rw [hret] at h; cases h) hlk
  exact ⟨_, _, X.areturnOut hx hv hret ht (hb hby hd) hr, hrun, hended, _, _, rfl, hQ, h1, h2, h3, h4.mono hc hs⟩
/-- the constructor of a Throwable (message, cause) on an object that the walk has made -/
theorem ow_exc2 {rc : String} {links : List Link} {ic n : Nat} {a : Addr} {msg cz : Value} {rest : List Value} (C : OwC p Z s m meth c own nm bytes maxL ret) (X : Stand p l e R s m args below meth c T locs cells slots) (eT : T.heap = h) (hl : l.stackTraces = true) (hok : linksOk 2 links = true)
    (w1 : (Jvm.Cond.methodLink own ic (Jvm.Free.Exc.ctor 2 (headName links))).before a0 Z = true) (w2 : (Jvm.Cond.instanceMethod (Jvm.Free.Exc.ctor 2 (headName links))).before a0 Z = true) (wT : (chainTab 2 rc links).before a0 Z = true) (wi : (Jvm.Cond.instantiable rc n).before a0 Z = true) (hr : ∀ d ∈ twoRefs, d.before a0 Z = true)
    (hT0 : ThS Z s.heap) (hT : ThS Z h) (hTK : s.vm.MethodsKnown) (hBelow : s.vm.FramesKnown below) (E : Exa Z h a rc) (N : Unt h a) (B : Fld Z h a tN "backtrace" obD .null) (B2 : Fld Z h a tN "detailMessage" msgD .null) (hmsg : msg.isRef = true) (hcz : cz.isRef = true)
    (hsz : Ls.size = maxL) (hd : decode bytes pc = .ok (.invokespecial ic, 3)) (hf : 4 + links.length ≤ R.frames) (hlo : owCat rest + (56 + 14 * links.length) ≤ R.locals) (hc : cells + 1 ≤ R.cells) (hsl : slots + 2752 ≤ R.slots) (hp : pc + 3 = pc')
    (k : ∀ T' h', Stand p l e R s m args below meth c T' (locs ++ sixLocs Z a) (cells + 1) (slots + 2752) → T'.heap = h' → Kp Z h h' a → Exa Z h' a rc → Unt h' a → ThS Z h' → OwF p e below D T' (mkF m pc' Ls rest)) : OwF p e below D T (mkF m pc Ls (cz :: msg :: .ref a :: rest)) := by
  subst hp
  obtain ⟨T', h', X', e', K', E', N', -, -, S', st⟩ := excL2 X C.1 hl C.2.2.2.2.2.2.2 C.2.2.2.1 hok w1 w2 wT wi hr hT0 hT hTK hBelow eT E N B B2 hmsg hcz (g := mkF m pc Ls (cz :: msg :: .ref a :: rest)) rfl (by rw [C.2.2.1]; exact hsz) rfl (hb C.2.1 hd) hf (by show 2 * 0 + owCat rest + _ ≤ _; omega) hc hsl
  exact OwF.st st (k T' h' X' e' K' E' N' S')
/-- a new object, and that nobody has touched it -/
theorem ow_newU {K : String} {index n : Nat} (C : OwC p Z s m meth c own nm bytes maxL ret) (X : Stand p l e R s m args below meth c T locs cells slots) (eT : T.heap = h) (w : (Jvm.Cond.classLink own index K).before a0 Z = true) (wi : (Jvm.Cond.instantiable K n).before a0 Z = true) (wz : (Jvm.Cond.initialized K).before a0 Z = true)
    (hd : decode bytes pc = .ok (.new index, 3)) (hc : cells + 1 ≤ R.cells) (hl : slots + n ≤ R.slots) (hp : pc + 3 = pc')
    (k : ∀ T' h' a, a = h.size → Stand p l e R s m args below meth c T' locs (cells + 1) (slots + n) → T'.heap = h' → Ext h h' → Exa Z h' a K → (∀ {O nm d : String} {ty : FieldType}, Laid Z a0 K O nm d → parseFieldDescriptor d = some ty → Fld Z h' a O nm d (defaultValue ty)) → Unt h' a → OwF p e below D T' (mkF m pc' Ls (.ref a :: r))) : OwF p e below D T (mkF m pc Ls r) := by
  subst hp
  obtain ⟨T', h', X', e', E', A', D', U', st⟩ := newO X C.1 C.2.2.2.2.2.2.2 C.2.2.2.1 w wi wz eT (g := mkF m pc Ls r) rfl (hb C.2.1 hd) hc hl
  exact OwF.st st (k T' h' _ rfl X' e' E' A' D' U')
theorem own_conj5 {d1 d2 d3 d4 x : Jvm.Cond} (h : ∀ d ∈ [d1, d2, d3, d4], d.before a0 Z = true) (hx : x.before a0 Z = true) : (Jvm.Free.Exc.conj [d1, d2, d3, d4, x]).before a0 Z = true := conj_of fun d hd => by
  simp only [List.mem_cons, List.not_mem_nil, or_false] at hd
  rcases hd with rfl | rfl | rfl | rfl | rfl
  · exact h _ (by simp)
  · exact h _ (by simp)
  · exact h _ (by simp)
  · exact h _ (by simp)
  · exact hx
end OwnCold
theorem ow_retNar {p : Program} {l : Launch} {e : Env} {R : Room} {s : State} {m : MethodId} {args : Array Value} {below : List Frame} {meth : Method} {c : Code} {T : State} {locs : List Loc} {cells slots : Nat} {Z : State} {own nm : String} {bytes : ByteArray} {maxL : Nat} {pc : Nat} {Ls : Array Slot} {r : List Value} {t : FieldType}
    {Q : Option Value → Heap → List Loc → Prop} {kc ks : Nat} {z : Int32} (C : OwC p Z s m meth c own nm bytes maxL (some t)) (ht : t = .boolean ∨ t = .byte ∨ t = .char ∨ t = .short) (X : Stand p l e R s m args below meth c T locs cells slots) (hd : decode bytes pc = .ok (.ireturn, 1)) (hc : cells ≤ kc) (hs : slots ≤ ks)
    (hQ : Q (some (.int (nar t z))) T.heap locs) : OwF p e below (OwD s below Q kc ks) T (mkF m pc Ls (.int z :: r)) := by
  obtain ⟨hx, hby, -, -, -, hret, hlk, -⟩ := C
  obtain ⟨fs, hr, hrun, hended, hW, hsame⟩ := X.leave (v := some (.int (nar t z))) (fun h => by rw [hret] at h; cases h) hlk
  exact ⟨_, _, retN X hx hret ht (hb hby hd) hr, hrun, hended, _, _, rfl, hQ, ⟨_, rfl⟩, hW, hsame.mono hc hs⟩
/-! Throwable's own text on an object of a class of which the sheet lays all six fields: the tables' side for fillInStackTrace, out of this sheet's words -/
section OwnThr
open Bundle Jvm.Free.Exc
theorem own_tl {Z : State} {a0 : Array Value} (hw : ∀ d ∈ tables_1, d.before a0 Z = true) {s : State} (args : Array Value) (hT0 : ThS Z s.heap) (hZ : Z.Warmed39 s.vm) (pl : Platform) (ho : pl.frameOwnsMonitors = true) (hfi : pl.finalization = false) (hpl : pl.magicAccessors = ({} : Platform).magicAccessors) :
    ∃ T : ThrowableC, T.Links pl s ∧ s.vm.findClass tN = some T.cT ∧ s.methodNamed? tFill = some T.fill ∧ s.methodNamed? tFill0 = some T.fill0 ∧ s.fieldFound? tN "stackTrace" steD = some (T.cT, T.kT, T.i17, T.fStack) ∧ T.fStack.type = .array (.object "java/lang/StackTraceElement") ∧
      s.fieldFound? tN "UNASSIGNED_STACK" steD = some (T.cT, T.kT, T.i13, T.fUnassigned) := by
  obtain ⟨⟨cT, j0⟩, y0, fn0, vm0, nat0, nc0, nl0, sg0⟩ := Cond.native_spec (x := tFill0) (args := args) (first := s) (s := s) (o := none) (idx := []) (mvX hT0 hZ rfl (hw _ (List.mem_of_getElem? (i := 74) rfl)))
  have hT : s.vm.findClass tN = some cT := findClass_of_methodNamed fn0
  obtain ⟨k, hk, knm⟩ := Vm.findClass_spec hT
  have kini := Cond.initialized_spec (args := args) (first := s) (s := s) (o := none) (idx := []) hT hk (mvX hT0 hZ rfl (hw _ (List.mem_of_getElem? (i := 53) rfl)))
  have knI : k.isInterface = false := by
    obtain ⟨_, k1, _, _, q, _, _, _, _, r⟩ := Cond.superclass_spec (args := args) (first := s) (s := s) (o := none) (idx := []) (sup := "java/lang/Object") hT (mvX hT0 hZ rfl (hw _ (List.mem_of_getElem? (i := 71) rfl)))
    cases hk.symm.trans q; exact r
  -- the two methods that are run
  obtain ⟨jF, yF, fnF, vmF, atF, stF, abF, -, -⟩ := Cond.ownMethod (args := args) (first := s) (s := s) (o := none) (idx := []) (x := tFill) hT hk (mvX hT0 hZ rfl (hw _ (List.mem_of_getElem? (i := 66) rfl)))
  obtain ⟨y', cdF, q1, coF, byF, mlF, rtF, lkF, -, sgF⟩ := Cond.codeSync_spec (args := args) (first := s) (s := s) (o := none) (idx := []) (bytes := LibCode.Throwable.Fill.code) (maxLocals := 1) (ret := some (.object tN)) fnF (mvX hT0 hZ rfl (hw _ (List.mem_of_getElem? (i := 72) rfl)))
  cases vmF.symm.trans q1
  obtain ⟨j1, y1, q2, q3, at0, st0, ab0, nm0, ds0⟩ := Cond.ownMethod (args := args) (first := s) (s := s) (o := none) (idx := []) (x := tFill0) hT hk (mvX hT0 hZ rfl (hw _ (List.mem_of_getElem? (i := 73) rfl)))
  cases fn0.symm.trans q2
  cases vm0.symm.trans q3
  -- Object's constructor
  obtain ⟨mO, yO, fnO, vmO, stO, abO⟩ := Cond.instanceMethod_spec (args := args) (first := s) (s := s) (o := none) (idx := []) (x := oInit) (mvX hT0 hZ rfl (hw _ (List.mem_of_getElem? (i := 7) rfl)))
  obtain ⟨y2, cdO, q4, coO, byO, -, -, lkO, -, sgO⟩ := Cond.code_spec (args := args) (first := s) (s := s) (o := none) (idx := []) (bytes := ⟨#[0xb1]⟩) (maxLocals := 1) (ret := none) fnO (mvX hT0 hZ rfl (hw _ (List.mem_of_getElem? (i := 8) rfl)))
  cases vmO.symm.trans q4
  obtain ⟨kO, hkO, knO⟩ := Vm.findClass_spec (findClass_of_methodNamed fnO)
  obtain ⟨nmO, dsO⟩ := name_of_methodNamed fnO vmO
  -- the pool's entries
  obtain ⟨ci1, n1, cf, l1, r1, z1, p1⟩ := Cond.linkedMethod (args := args) (first := s) (o := none) (idx := []) (index := 1) hT hk fnO (mvX hT0 hZ rfl (hw _ (List.mem_of_getElem? (i := 55) rfl))) pl hpl
  obtain ⟨ci27, n27, cf2, l27, r27, z27, p27⟩ := Cond.linkedMethod (args := args) (first := s) (o := none) (idx := []) (index := 27) hT hk fnF (mvX hT0 hZ rfl (hw _ (List.mem_of_getElem? (i := 64) rfl))) pl hpl
  cases z1.symm.trans z27
  obtain ⟨ci202, n202, cf3, l202, r202, z202, p202⟩ := Cond.linkedMethod (args := args) (first := s) (o := none) (idx := []) (index := 202) hT hk fn0 (mvX hT0 hZ rfl (hw _ (List.mem_of_getElem? (i := 77) rfl))) pl hpl
  cases z1.symm.trans z202
  obtain ⟨ci7, i7, f7, l7, r7, at7, s7, u7, -, -, -⟩ := Cond.ownField (args := args) (first := s) (o := none) (idx := []) (index := 7) (name := "cause") (desc := thD) (C' := "com/example/topsail/topsail/UnmatchableValueException") (t := .object tN) hT hk (by decide +kernel) (mvX hT0 hZ rfl (hw _ (List.mem_of_getElem? (i := 56) rfl))) (mvX hT0 hZ rfl (hw _ (List.mem_of_getElem? (i := 57) rfl))) pl hpl
  obtain ⟨ci17, i17, f17, l17, r17, at17, s17, u17, nm17, ty17, ff17⟩ := Cond.ownField (args := args) (first := s) (o := none) (idx := []) (index := 17) (name := "stackTrace") (desc := steD) (C' := "com/example/topsail/topsail/UnmatchableValueException") (t := .array (.object "java/lang/StackTraceElement")) hT hk (by decide +kernel) (mvX hT0 hZ rfl (hw _ (List.mem_of_getElem? (i := 59) rfl))) (mvX hT0 hZ rfl (hw _ (List.mem_of_getElem? (i := 60) rfl))) pl hpl
  obtain ⟨ci24, i24, f24, l24, r24, at24, s24, u24, nm24, -, ff24⟩ := Cond.ownField (args := args) (first := s) (o := none) (idx := []) (index := 24) (name := "suppressedExceptions") (desc := listD) (C' := "com/example/topsail/topsail/UnmatchableValueException") (t := .object "java/util/List") hT hk (by decide +kernel) (mvX hT0 hZ rfl (hw _ (List.mem_of_getElem? (i := 62) rfl))) (mvX hT0 hZ rfl (hw _ (List.mem_of_getElem? (i := 63) rfl))) pl hpl
  obtain ⟨ci13, i13, f13, aS, cS, l13, r13, at13, s13, -, -, sta, -, -, -, -, ff13⟩ := Cond.ownStatic (args := args) (first := s) (o := none) (idx := []) (index := 13) (name := "UNASSIGNED_STACK") (desc := steD) (t := .array (.object "java/lang/StackTraceElement")) hT hk (by decide +kernel) (mvX hT0 hZ rfl (hw _ (List.mem_of_getElem? (i := 58) rfl))) (mvX hT0 hZ rfl (hw _ (List.mem_of_getElem? (i := 84) rfl))) pl hpl
  obtain ⟨ci20, i20, f20, _, _, l20, r20, at20, s20, -⟩ := Cond.ownStatic (args := args) (first := s) (o := none) (idx := []) (index := 20) (name := "SUPPRESSED_SENTINEL") (desc := listD) (t := .object "java/util/List") hT hk (by decide +kernel) (mvX hT0 hZ rfl (hw _ (List.mem_of_getElem? (i := 61) rfl))) (mvX hT0 hZ rfl (hw _ (List.mem_of_getElem? (i := 85) rfl))) pl hpl
  have hap : f17.slot ≠ f24.slot := by
    obtain ⟨cU, kU, -, -, -, -, hcU, hkU, -⟩ := Cond.lays_spec (args := args) (first := s) (s := s) (o := none) (idx := []) (cls := "com/example/topsail/topsail/UnmatchableValueException") (owner := tN) (name := "stackTrace") (desc := steD) (mvX hT0 hZ rfl (hw _ (List.mem_of_getElem? (i := 60) rfl)))
    obtain ⟨-, d1, g1, g2⟩ := Cond.laysAt (args := args) (first := s) (o := none) (idx := []) hcU hkU ff17 (mvX hT0 hZ rfl (hw _ (List.mem_of_getElem? (i := 60) rfl)))
    obtain ⟨-, d2, g3, g4⟩ := Cond.laysAt (args := args) (first := s) (o := none) (idx := []) hcU hkU ff24 (mvX hT0 hZ rfl (hw _ (List.mem_of_getElem? (i := 63) rfl)))
    exact Cond.laysApart g1 g3 g2 g4 (by rw [nm17, nm24]; decide)
  have eF := Option.some.inj (sgF.symm.trans (show parseMethodDescriptor tFill.desc = some ⟨[], some (.object tN)⟩ by decide +kernel))
  have e0 := Option.some.inj (sg0.symm.trans (show parseMethodDescriptor tFill0.desc = some ⟨[.int], some (.object tN)⟩ by decide +kernel))
  have eO := Option.some.inj (sgO.symm.trans (show parseMethodDescriptor oInit.desc = some ⟨[], none⟩ by decide +kernel))
  refine ⟨{ cT := cT, kT := k, cO := cT, aS := aS, fillIdx := jF, fill0Idx := j0, initSIdx := jF, obj := mO, kObj := kO, methFill := yF, methFill0 := y0, methInitS := yF, methObj := yO, codeFill := cdF, codeInitS := cdF, codeObj := cdO, fBack := f7, fDepth := f7, fStack := f17, fCause := f7, fSupp := f24, fMsg := f7, fUnassigned := f13, fSentinel := f20,
            cfT := cf, ci1 := ci1, n1 := n1, ci27 := ci27, n27 := n27, ci202 := ci202, n202 := n202, ci7 := ci7, i7 := i7, ci13 := ci13, i13 := i13, ci17 := ci17, i17 := i17, ci20 := ci20, i20 := i20, ci24 := ci24, i24 := i24 }, ?_, hT, fnF, fn0, ff17, ty17, ff13⟩
  constructor
  case owns => exact ho
  case noFinalization => exact hfi
  case boot => exact Vm.findClass_boot hT hk
  case fillParams => show yF.sig.parameters = []; rw [eF]
  case fill0Params => show y0.sig.parameters = [.int]; rw [e0]
  case objParams => show yO.sig.parameters.length = 0; rw [eO]; rfl
  case objFound => show lookupSpecial s.vm mO.cls "<init>" yO.desc = .method mO; rw [dsO]; exact lookupSpecial_of_named fnO vmO stO
  case stackApartSupp => exact hap
  all_goals assumption
theorem own_tk {s : State} {cell : Cell} {k : Class} {f : Field} {v : Value} (hk : s.vm.classes[cell.cls]? = some k) (ho : k.kind = .ordinary) (hs : cell.slots.size = k.instanceTypes.size) (hv : cell.vm = .none) (h1 : k.instanceTypes[f.slot]? = some f.type) (h2 : fits f.type v = true) : Jvm.Takes s cell f v := by
  obtain ⟨q1, q2⟩ := Takes.of_laid (v := v) hk ho h1 h2
  exact ⟨by rw [hs]; simpa using q1, by rw [hv]; exact q2⟩
theorem own_six1 {Z s : State} (hZ : Z.Warmed39 s.vm) {h : Heap} {a : Addr} {n d : String} {v : Value} (F : Fld Z h a tN n d v) (hm : (n, d) ∈ Jvm.Free.Exc.sixNames) : Six s a ⟨a, Jvm.RoadKit.slotOf Z tN n d⟩ := by
  obtain ⟨_, cf, k, i, f, -, q2, -⟩ := F
  obtain ⟨k', hi', -⟩ := State.fieldFound?_setVm hZ.alike q2
  refine ⟨(n, d), f, hm, ⟨_, _, _, hi'⟩, ?_⟩
  simp [Jvm.RoadKit.slotOf, q2]
/-- fillInStackTrace on an object that the constructor at hand has just prepared -/
theorem ow_fill {p : Program} {l : Launch} {e : Env} {R : Room} {s : State} {m : MethodId} {args : Array Value} {below : List Frame} {meth : Method} {c : Code} {T : State} {locs : List Loc} {cells slots : Nat} {Z : State} {a0 : Array Value} {h h0 : Heap} {nm : String} {bytes : ByteArray} {maxL : Nat} {ret : Option FieldType} {D : State → Outcome → Prop} {pc pc' : Nat} {Ls : Array Slot} {rest : List Value} {a : Addr} {u0 : RefV}
    (hw : ∀ d ∈ tables_1, d.before a0 Z = true) (C : OwC p Z s m meth c tN nm bytes maxL ret) (X : Stand p l e R s m args below meth c T locs cells slots) (eT : T.heap = h) (eS : s.heap = h0) (hl : l.stackTraces = true) (hTS : ThS Z h0) (hTK : s.vm.MethodsKnown) (hBelow : s.vm.FramesKnown below)
    (E : Exa Z h a "com/example/topsail/topsail/UnmatchableValueException") (N : Unt h a) (FB : Fld Z h a tN "backtrace" obD .null) (FS : Fld Z h a tN "stackTrace" steD u0.v) (SU : Sta Z h tN "UNASSIGNED_STACK" steD u0.v) (hB : ∀ y ∈ locs, Six s a y)
    (hsz : Ls.size = maxL) (hd : decode bytes pc = .ok (.invokevirtual 27, 3)) (hf : 2 < R.frames) (hlo : owCat rest + 42 ≤ R.locals) (hc : cells + 1 ≤ R.cells) (hsl : slots + 2752 ≤ R.slots) (hp : pc + 3 = pc')
    (k : ∀ T' h', Stand p l e R s m args below meth c T' (locs ++ sixLocs Z a) (cells + 1) (slots + 2752) → T'.heap = h' → Kp Z h0 h' a → OwF p e below D T' (mkF m pc' Ls (.ref a :: rest))) : OwF p e below D T (mkF m pc Ls (.ref a :: rest)) := by
  subst hp
  have hZ : Z.Warmed39 s.vm := C.2.2.2.2.2.2.2
  have hT0 : ThS Z s.heap := by rw [eS]; exact hTS
  have hpf := X.admits.platform
  obtain ⟨Th, Lk, fT, fF, fF0, ffS, tyS, ffU⟩ := own_tl hw args hT0 hZ e.platform (by rw [hpf]) (by rw [hpf]) (by rw [hpf])
  obtain ⟨cell, kZ, c1, c2, c3, -, c5⟩ := id E
  obtain ⟨cell', u1, u2, u3⟩ := N
  cases c1.symm.trans u1
  have cU : s.vm.findClass "com/example/topsail/topsail/UnmatchableValueException" = some cell.cls := by rw [hZ.alike.findClass]; exact c2
  obtain ⟨cI, kU, i1, i2, ord, -, -, i6⟩ := Cond.instantiable_spec (args := args) (first := s) (s := s) (o := none) (idx := []) (cls := "com/example/topsail/topsail/UnmatchableValueException") (n := 7) (mvX hT0 hZ rfl (hw _ (List.mem_of_getElem? (i := 17) rfl)))
  cases i1.symm.trans cU
  have hsize : cell.slots.size = kU.instanceTypes.size := by
    obtain ⟨k2, q1, q2⟩ := hZ.alike.2.2 _ _ c3
    cases q1.symm.trans i2
    rw [q2]
    exact c5 (by rw [q2] at ord; exact ord)
  -- the fields
  obtain ⟨x1, cfS, kfS, iS, fS, g1, g2, -, -, -, -, g7⟩ := FS
  cases c1.symm.trans g1
  obtain ⟨kfS', hS', -⟩ := State.fieldFound?_setVm hZ.alike g2
  cases hS'.symm.trans ffS
  obtain ⟨cfU, iU, kfU, fU, st, cellS, w1, -, -, w4, w5, w6, w7⟩ := SU
  obtain ⟨kfU', hU', hek⟩ := State.fieldFound?_setVm hZ.alike w1
  cases hU'.symm.trans ffU
  have hst : st = Th.aS := Option.some.inj ((show Th.kT.statics = some st by rw [hek]; exact w4).symm.trans Lk.statics)
  subst hst
  obtain ⟨x2, cfB, kfB, iB, fB', b1, b2, -, -, -, -, b7⟩ := FB
  cases c1.symm.trans b1
  obtain ⟨kfB', hB', -⟩ := State.fieldFound?_setVm hZ.alike b2
  obtain ⟨ci198, i198, fB, l198, r198, at198, sB, -, nB, tB, ffB⟩ := Cond.ownField (args := args) (first := s) (o := none) (idx := []) (index := 198) (name := "backtrace") (desc := obD) (C' := "com/example/topsail/topsail/UnmatchableValueException") (t := .object "java/lang/Object") fT Lk.cls (by decide +kernel) (mvX hT0 hZ rfl (hw _ (List.mem_of_getElem? (i := 82) rfl))) (mvX hT0 hZ rfl (hw _ (List.mem_of_getElem? (i := 88) rfl))) e.platform (by rw [hpf])
  cases hB'.symm.trans ffB
  have wD : (Cond.lays "com/example/topsail/topsail/UnmatchableValueException" tN "depth" "I").holds args s none s [] = true := (mvX hT0 hZ rfl (hw _ (List.mem_of_getElem? (i := 89) rfl)))
  obtain ⟨-, -, cD, kD, iD, fD, -, -, ffD, sD, -⟩ := Cond.lays_spec wD
  cases Option.some.inj ((Cond.lays_declared wD ffD).symm.trans fT)
  cases Option.some.inj ((State.fieldFound?_spec ffD).1.symm.trans Lk.cls)
  have tD := (State.fieldFound?_type ffD (t := .int) (by decide +kernel)).2
  have hfb := Cond.soleField_find (args := args) (first := s) (s := s) (o := none) (idx := []) fT Lk.cls (mvX hT0 hZ rfl (hw _ (List.mem_of_getElem? (i := 69) rfl))) at198 nB sB
  have hfd := Cond.soleField_found (args := args) (first := s) (s := s) (o := none) (idx := []) fT (mvX hT0 hZ rfl (hw _ (List.mem_of_getElem? (i := 70) rfl))) ffD sD
  obtain ⟨comp, cO, kO, -, -, hkO, hkindO, hO⟩ := Cond.arrayOver_spec (args := args) (first := s) (s := s) (o := none) (idx := []) (n := "java/lang/Object") (mvX hT0 hZ rfl (hw _ (List.mem_of_getElem? (i := 68) rfl)))
  obtain ⟨tyB, -⟩ := Cond.laysAt (args := args) (first := s) (o := none) (idx := []) cU i2 ffB (mvX hT0 hZ rfl (hw _ (List.mem_of_getElem? (i := 88) rfl)))
  obtain ⟨tySt, -⟩ := Cond.laysAt (args := args) (first := s) (o := none) (idx := []) cU i2 ffS (mvX hT0 hZ rfl (hw _ (List.mem_of_getElem? (i := 60) rfl)))
  obtain ⟨tyD, -⟩ := Cond.laysAt (args := args) (first := s) (o := none) (idx := []) cU i2 ffD wD
  have hsel0 : selectMethod e.platform s.vm cell.cls Th.fill0 = .method Th.fill0 := by
    obtain ⟨c9, r9, m9, q1, q2, q3, q4, -⟩ := Cond.selects_spec (args := args) (first := s) (s := s) (o := none) (idx := []) (cls := "com/example/topsail/topsail/UnmatchableValueException") (x := tFill0) (y := tFill0) (mvX hT0 hZ rfl (hw _ (List.mem_of_getElem? (i := 86) rfl)))
    cases q1.symm.trans cU
    cases q2.symm.trans (State.methodFound?_of_named fF0 (by decide))
    cases q3.symm.trans fF0
    rw [Launch.admits_selectMethod X.admits]; exact q4
  have hne : Th.aS ≠ a := fun w => by
    rw [w, c1] at w5
    cases w5
    rw [u2] at w6; cases w6
  have hSE : (Cond.selects "com/example/topsail/topsail/UnmatchableValueException" tFill tFill).before args s = true := (mvX hT0 hZ rfl (hw _ (List.mem_of_getElem? (i := 67) rfl)))
  obtain ⟨v, vm', ⟨T', L', c', n'⟩, -, X', ⟨hv, Cn, n, hn, -, -, -, -, -, hL, hcc, hss⟩, come⟩ := X.virtualBack C.1 (C := "com/example/topsail/topsail/UnmatchableValueException") (index := 27) (y := tFill) (z := tFill) C.2.2.2.1 (mvX hT0 hZ rfl (hw _ (List.mem_of_getElem? (i := 64) rfl))) (mvX hT0 hZ rfl (hw _ (List.mem_of_getElem? (i := 65) rfl))) (notFace_of_selects hSE) hSE (mvX hT0 hZ rfl (hw _ (List.mem_of_getElem? (i := 66) rfl))) (by decide)
    (fillPaysAny (l := l) (W := owCat rest) C.1 (by rw [hpf]; exact hl) Th Lk fF (u0 := u0) (self := a) (cell := cell) (cellS := cellS) (fun _ => by rw [u2]; simp) (by rw [u2]; simp) (by rw [u3]) (by rw [u3]) g7 hsel0 hne (fun q => by rw [q] at w6; cases w6) w7 (own_tk i2 ord hsize u2 tySt (by rw [tyS]; exact fits_refV_array _ u0))
      ⟨{ ci198 := ci198, i198 := iB, fBack := fB' }, ⟨l198, r198, at198, sB⟩, b7⟩ hTK hBelow fT hO hkO hkindO hfb hfd
      (fun x => own_tk i2 ord hsize u2 tyB (by rw [tB]; rfl)) (fun x => own_tk i2 ord hsize u2 tyD (by rw [tD]; rfl)) hf hlo)
    (b := a) (cB := cell.cls) cU ⟨cell, by rw [eT]; exact c1, rfl, by rw [u2]; rfl⟩ (g := mkF m pc Ls (.ref a :: rest)) rfl (by rw [C.2.2.1]; exact hsz) (Steps.refl _) (argsL := []) (rest := rest)
    (fun sig q => by rw [show parseMethodDescriptor tFill.desc = some ⟨[], some (.object tN)⟩ from by decide +kernel] at q; rw [← Option.some.inj q]; rfl) rfl (by show 2 * 0 + owCat rest ≤ owCat rest; omega) (hb C.2.1 hd)
    (fun vmx hWx => ⟨rfl, hc, hsl, by show T.heap[a]? = _; rw [eT]; exact c1, by show T.heap[Th.aS]? = _; rw [eT]; exact w5⟩)
  dsimp only [Pt.U, Pt.locs, Pt.cells, Pt.slots] at X' hL hcc hss come
  subst hv hL hcc hss
  have hL3 : ∀ x ∈ [(⟨a, fB'.slot⟩ : Loc), ⟨a, fD.slot⟩, ⟨a, Th.fStack.slot⟩], Six s a x := fun x hx => by
    simp only [List.mem_cons, List.not_mem_nil, or_false] at hx
    rcases hx with rfl | rfl | rfl
    · exact ⟨("backtrace", obD), _, by simp [Jvm.Free.Exc.sixNames], ⟨_, _, _, ffB⟩, rfl⟩
    · exact ⟨("depth", "I"), _, by simp [Jvm.Free.Exc.sixNames], ⟨_, _, _, ffD⟩, rfl⟩
    · exact ⟨("stackTrace", steD), _, by simp [Jvm.Free.Exc.sixNames], ⟨_, _, _, ffS⟩, rfl⟩
  have hK : Jvm.Free.Exc.Kept s T' (locs ++ [(⟨a, fB'.slot⟩ : Loc), ⟨a, fD.slot⟩, ⟨a, Th.fStack.slot⟩]) := fun y cy hy => X'.same.2.2.2.2.2 y cy hy
  refine OwF.st (fun _ q => come.trans q) (k T' T'.heap ((wider X' hZ hL3).more (Nat.le_refl _) (Nat.add_le_add_left hn _)) rfl (kp_of hZ eS (fun x hx => (List.mem_append.mp hx).elim (hB x) (hL3 x)) hK))
end OwnThr

def OwConL (l : Launch) (y : MethodName) (bytes : ByteArray) (maxL : Nat) (ret : Option FieldType) (rm : Room) (Z : State) (as' : Array Value) (h : Heap) (Q : Option Value → Heap → List Loc → Prop) : Prop :=
  ∀ ws, MetFree l y (head1 (Jvm.Cond.code y bytes maxL ret :: ws) rm) (fun a U => a = as' ∧ Z.Warmed39 U.vm ∧ U.heap = h) (fun _ _ _ U _ => Jvm.D.framesKnown U = true ∧ Jvm.D.tablesKnown U = true) (fun _ U o U' => ∃ v L, o = .returned v ∧ Q v U'.heap L ∧ ReturnedEndW U o U' L rm.cells rm.slots)
theorem OwConL.of {l : Launch} {Z : State} {bytes : ByteArray} {maxL : Nat} {ret : Option FieldType} {h : Heap} {y : MethodName} {rm : Room} {as' : Array Value} {Q : Option Value → Heap → List Loc → Prop} (hpl : plainFor y = true) {Ls : Array Slot} (hent : ∀ m, entryFrame m as' maxL = mkF m 0 Ls [])
    (body : ∀ (p : Program) (e : Env) (s : State) (m : MethodId) (below : List Frame) (meth : Method) (c : Code) (s₁ : State), OwKn true s.vm below → OwC p Z s m meth c y.cls y.name bytes maxL ret → Stand p l e rm s m as' below meth c s₁ [] 0 0 → s₁.heap = h → s.heap = h → s.Since s.vm s.heap.size → OwF p e below (OwDW s below Q rm.cells rm.slots) s₁ (mkF m 0 Ls [])) :
    OwConL l y bytes maxL ret rm Z as' h Q := by
  intro ws
  refine MetFree.of_bodySF hpl hisR ?_
  intro p e s m args below meth c s₁ Bd hml0 hP hK
  obtain ⟨rfl, hZ, hh⟩ := hP
  have X0 : Stand p l e rm s m args below meth c s₁ [] 0 0 := Stand.of_body Bd
  obtain ⟨t, o, h1, h2, h3, h4⟩ := body p e s m below meth c s₁ (fun _ => X0.known hK.2 hK.1) ⟨Bd.exec, Bd.bytes, hml0, findClass_of_methodNamed Bd.named, (name_of_methodNamed Bd.named Bd.method).1, Bd.returns, BodyLoose.notSynchronized Bd, hZ⟩ X0 (by rw [← hh, Bd.state]; rfl) hh (own_since s)
  exact ⟨t, o, castTop (hent m) h1, h2, h3, h4⟩
theorem own_in {L : List Jvm.Cond} {Z : State} {a0 : Array Value} (hw : ∀ d ∈ tables_1, d.before a0 Z = true) (h : (L.all fun c => tables_1.contains c) = true) : ∀ d ∈ L, d.before a0 Z = true := fun d hd => hw d (by simpa using (List.all_eq_true.mp h) d hd)
theorem own_str {Z : State} {a0 : Array Value} (hw : ∀ d ∈ tables_1, d.before a0 Z = true) : ∀ d ∈ Bundle.stringAtoms, d.before a0 Z = true := own_in hw (by decide +kernel)
/-- a String of one sign -/
def OwStr (Z : State) (h : Heap) (a : Addr) : Prop := ∃ (b : Addr) (f : Nat → Int32), Exa Z h a "java/lang/String" ∧ Fld Z h a "java/lang/String" "value" "[B" (.ref b) ∧ Fld Z h a "java/lang/String" "coder" "B" (.int 0) ∧ OwA Z h b .byte 1 (fun j => .int (f j))
theorem OwStr.keep {Z : State} {h h' : Heap} {a o : Addr} {K : String} {n : Nat} {a0 : Array Value} (S : OwStr Z h a) (E : Exa Z h o K) (hK : K ≠ "java/lang/String") (wi : (Jvm.Cond.instantiable K n).before a0 Z = true) (Kp : Keep h h' [o]) : OwStr Z h' a := by
  obtain ⟨b, f, S1, S2, S3, S4⟩ := S
  have q : a ∉ [o] := own_nm (fun w => (Exa.ne E S1 hK) w.symm)
  exact ⟨b, f, S1.keep Kp, S2.keep Kp q, S3.keep Kp q, S4.keep Kp (own_nm (Ne.symm (S4.ne E wi)))⟩
theorem OwStr.keep0 {Z : State} {h h' : Heap} {a : Addr} (S : OwStr Z h a) (Kp : Keep h h' []) : OwStr Z h' a := by
  obtain ⟨b, f, S1, S2, S3, S4⟩ := S
  exact ⟨b, f, S1.keep Kp, S2.keep Kp own_nil, S3.keep Kp own_nil, S4.keep Kp own_nil⟩
theorem OwStr.exa {Z : State} {h : Heap} {a : Addr} (S : OwStr Z h a) : Exa Z h a "java/lang/String" := by obtain ⟨b, f, S1, -⟩ := S; exact S1
abbrev OwPE (h : Heap) (v' : Option Value) (h' : Heap) (L : List Loc) : Prop := ∃ r : Int32, v' = some (.int r) ∧ L = [] ∧ h' = h
theorem d3_0 : decode prog_2_method_4_code 0 = .ok (.aload_n 0, 1) := by decide +kernel
theorem d3_1 : decode prog_2_method_4_code 1 = .ok (.getfield 20, 3) := by decide +kernel
theorem d3_4 : decode prog_2_method_4_code 4 = .ok (.ifnull 7, 3) := by decide +kernel
theorem d3_7 : decode prog_2_method_4_code 7 = .ok (.iconst 1, 1) := by decide +kernel
theorem d3_8 : decode prog_2_method_4_code 8 = .ok (.goto 4, 3) := by decide +kernel
theorem d3_11 : decode prog_2_method_4_code 11 = .ok (.iconst 0, 1) := by decide +kernel
theorem d3_12 : decode prog_2_method_4_code 12 = .ok (.ireturn, 1) := by decide +kernel
theorem pn_3 : plainFor (⟨"com/example/topsail/topsail/FirstRefusal", "found", "()Z"⟩ : MethodName) = true := by first | exact plainFor_of_name (by first | (simp [plainName, overriddenIn]; done) | decide +kernel) | decide +kernel
theorem pd_0 : parseMethodDescriptor "()Z" = some ⟨[], (some .boolean)⟩ := by decide +kernel
set_option maxRecDepth 65536 in
set_option maxHeartbeats 40000000 in
theorem rm_fndN (l : Launch) (Z : State) (a0 : Array Value) (hw : ∀ d ∈ tables_1, d.before a0 Z = true) (o : Addr) (h0 : Heap) (F : Fld Z h0 o "com/example/topsail/topsail/FirstRefusal" "reason" "Lcom/example/topsail/topsail/UnmatchableValueException;" .null) :
    OwCon l (⟨"com/example/topsail/topsail/FirstRefusal", "found", "()Z"⟩ : MethodName) prog_2_method_4_code 1 (some .boolean) ({ frames := 0, cells := 0, slots := 0, locals := 0 } : Room) Z #[(.ref o)] h0 (OwP (some (.int 0)) h0) := by
  refine OwCon.of pn_3 (Ls := #[.val (.ref o)]) (fun m => by first | (simp [entryFrame, mkF, argsToLocals, Value.category]; done) | rfl) ?_
  intro p e s m below meth c s₁ C X0 e0
  refine ow_aloadN C X0 d3_0 rfl rfl (pc' := 1) rfl ?_
  refine ow_getF C X0 e0 (hw _ (List.mem_of_getElem? (i := 14) rfl)) F d3_1 (pc' := 4) rfl (fun T1 X1 e1 => ?_)
  refine ow_ifnull_n C X1 d3_4 (pcT := 11) (by decide) (by decide) ?_
  refine ow_iconst (0 : Int32) C X1 d3_11 (by decide) (pc' := 12) rfl ?_
  exact ow_retZ C X1 d3_12 (Nat.le_of_ble_eq_true rfl) (Nat.le_of_ble_eq_true rfl) (Or.inl rfl) ⟨rfl, rfl, e1⟩
set_option maxRecDepth 65536 in
set_option maxHeartbeats 40000000 in
theorem rm_fndR (l : Launch) (Z : State) (a0 : Array Value) (hw : ∀ d ∈ tables_1, d.before a0 Z = true) (x : Addr) (o : Addr) (h0 : Heap) (F : Fld Z h0 o "com/example/topsail/topsail/FirstRefusal" "reason" "Lcom/example/topsail/topsail/UnmatchableValueException;" (.ref x)) :
    OwCon l (⟨"com/example/topsail/topsail/FirstRefusal", "found", "()Z"⟩ : MethodName) prog_2_method_4_code 1 (some .boolean) ({ frames := 0, cells := 0, slots := 0, locals := 0 } : Room) Z #[(.ref o)] h0 (OwP (some (.int 1)) h0) := by
  refine OwCon.of pn_3 (Ls := #[.val (.ref o)]) (fun m => by first | (simp [entryFrame, mkF, argsToLocals, Value.category]; done) | rfl) ?_
  intro p e s m below meth c s₁ C X0 e0
  refine ow_aloadN C X0 d3_0 rfl rfl (pc' := 1) rfl ?_
  refine ow_getF C X0 e0 (hw _ (List.mem_of_getElem? (i := 14) rfl)) F d3_1 (pc' := 4) rfl (fun T2 X2 e2 => ?_)
  refine ow_ifnull_r C X2 d3_4 (pc' := 7) rfl ?_
  refine ow_iconst (1 : Int32) C X2 d3_7 (by decide) (pc' := 8) rfl ?_
  refine ow_goto C X2 d3_8 (pcT := 12) (by decide) (by decide) ?_
  exact ow_retZ C X2 d3_12 (Nat.le_of_ble_eq_true rfl) (Nat.le_of_ble_eq_true rfl) (Or.inr rfl) ⟨rfl, rfl, e2⟩
theorem d21_0 : decode jdk_48_method_13_code 0 = .ok (.iconst 0, 1) := by decide +kernel
theorem d21_1 : decode jdk_48_method_13_code 1 = .ok (.istore_n 3, 1) := by decide +kernel
theorem d21_2 : decode jdk_48_method_13_code 2 = .ok (.iload_n 2, 1) := by decide +kernel
theorem d21_3 : decode jdk_48_method_13_code 3 = .ok (.bipush 7, 2) := by decide +kernel
theorem d21_5 : decode jdk_48_method_13_code 5 = .ok (.if_icmp .le 44, 3) := by decide +kernel
theorem d21_8 : decode jdk_48_method_13_code 8 = .ok (.aload_n 0, 1) := by decide +kernel
theorem d21_9 : decode jdk_48_method_13_code 9 = .ok (.iconst 0, 1) := by decide +kernel
theorem d21_10 : decode jdk_48_method_13_code 10 = .ok (.baload, 1) := by decide +kernel
theorem d21_11 : decode jdk_48_method_13_code 11 = .ok (.aload_n 1, 1) := by decide +kernel
theorem d21_12 : decode jdk_48_method_13_code 12 = .ok (.iconst 0, 1) := by decide +kernel
theorem d21_13 : decode jdk_48_method_13_code 13 = .ok (.baload, 1) := by decide +kernel
theorem d21_14 : decode jdk_48_method_13_code 14 = .ok (.if_icmp .eq 5, 3) := by decide +kernel
theorem d21_17 : decode jdk_48_method_13_code 17 = .ok (.iconst 0, 1) := by decide +kernel
theorem d21_18 : decode jdk_48_method_13_code 18 = .ok (.ireturn, 1) := by decide +kernel
theorem d21_19 : decode jdk_48_method_13_code 19 = .ok (.aload_n 0, 1) := by decide +kernel
theorem d21_20 : decode jdk_48_method_13_code 20 = .ok (.getstatic 126, 3) := by decide +kernel
theorem d21_23 : decode jdk_48_method_13_code 23 = .ok (.i2l, 1) := by decide +kernel
theorem d21_24 : decode jdk_48_method_13_code 24 = .ok (.aload_n 1, 1) := by decide +kernel
theorem d21_25 : decode jdk_48_method_13_code 25 = .ok (.getstatic 126, 3) := by decide +kernel
theorem d21_28 : decode jdk_48_method_13_code 28 = .ok (.i2l, 1) := by decide +kernel
theorem d21_29 : decode jdk_48_method_13_code 29 = .ok (.iload_n 2, 1) := by decide +kernel
theorem d21_30 : decode jdk_48_method_13_code 30 = .ok (.getstatic 129, 3) := by decide +kernel
theorem d21_33 : decode jdk_48_method_13_code 33 = .ok (.invokestatic 122, 3) := by decide +kernel
theorem d21_36 : decode jdk_48_method_13_code 36 = .ok (.istore_n 3, 1) := by decide +kernel
theorem d21_37 : decode jdk_48_method_13_code 37 = .ok (.iload_n 3, 1) := by decide +kernel
theorem d21_38 : decode jdk_48_method_13_code 38 = .ok (.ifCond .lt 5, 3) := by decide +kernel
theorem d21_41 : decode jdk_48_method_13_code 41 = .ok (.iload_n 3, 1) := by decide +kernel
theorem d21_42 : decode jdk_48_method_13_code 42 = .ok (.ireturn, 1) := by decide +kernel
theorem d21_43 : decode jdk_48_method_13_code 43 = .ok (.iload_n 2, 1) := by decide +kernel
theorem d21_44 : decode jdk_48_method_13_code 44 = .ok (.iload_n 3, 1) := by decide +kernel
theorem d21_45 : decode jdk_48_method_13_code 45 = .ok (.iconst (-1), 1) := by decide +kernel
theorem d21_46 : decode jdk_48_method_13_code 46 = .ok (.ixor, 1) := by decide +kernel
theorem d21_47 : decode jdk_48_method_13_code 47 = .ok (.isub, 1) := by decide +kernel
theorem d21_48 : decode jdk_48_method_13_code 48 = .ok (.istore_n 3, 1) := by decide +kernel
theorem d21_49 : decode jdk_48_method_13_code 49 = .ok (.iload_n 3, 1) := by decide +kernel
theorem d21_50 : decode jdk_48_method_13_code 50 = .ok (.iload_n 2, 1) := by decide +kernel
theorem d21_51 : decode jdk_48_method_13_code 51 = .ok (.if_icmp .ge 20, 3) := by decide +kernel
theorem d21_54 : decode jdk_48_method_13_code 54 = .ok (.aload_n 0, 1) := by decide +kernel
theorem d21_55 : decode jdk_48_method_13_code 55 = .ok (.iload_n 3, 1) := by decide +kernel
theorem d21_56 : decode jdk_48_method_13_code 56 = .ok (.baload, 1) := by decide +kernel
theorem d21_57 : decode jdk_48_method_13_code 57 = .ok (.aload_n 1, 1) := by decide +kernel
theorem d21_58 : decode jdk_48_method_13_code 58 = .ok (.iload_n 3, 1) := by decide +kernel
theorem d21_59 : decode jdk_48_method_13_code 59 = .ok (.baload, 1) := by decide +kernel
theorem d21_60 : decode jdk_48_method_13_code 60 = .ok (.if_icmp .eq 5, 3) := by decide +kernel
theorem d21_63 : decode jdk_48_method_13_code 63 = .ok (.iload_n 3, 1) := by decide +kernel
theorem d21_64 : decode jdk_48_method_13_code 64 = .ok (.ireturn, 1) := by decide +kernel
theorem d21_65 : decode jdk_48_method_13_code 65 = .ok (.iinc 3 1, 3) := by decide +kernel
theorem d21_68 : decode jdk_48_method_13_code 68 = .ok (.goto (-19), 3) := by decide +kernel
theorem d21_71 : decode jdk_48_method_13_code 71 = .ok (.iconst (-1), 1) := by decide +kernel
theorem d21_72 : decode jdk_48_method_13_code 72 = .ok (.ireturn, 1) := by decide +kernel
theorem pn_21 : plainFor (⟨"jdk/internal/util/ArraysSupport", "mismatch", "([B[BI)I"⟩ : MethodName) = true := by first | exact plainFor_of_name (by first | (simp [plainName, overriddenIn]; done) | decide +kernel) | decide +kernel
theorem pd_1 : parseMethodDescriptor "([B[BI)I" = some ⟨[(.array .byte), (.array .byte), .int], (some .int)⟩ := by decide +kernel
set_option maxRecDepth 65536 in
set_option maxHeartbeats 40000000 in
theorem rm_mis (l : Launch) (Z : State) (a0 : Array Value) (hw : ∀ d ∈ tables_1, d.before a0 Z = true) (b1 b2 : Addr) (f1 f2 : Nat → Int32) (h0 : Heap) (A1 : OwA Z h0 b1 .byte 1 (fun j => .int (f1 j))) (A2 : OwA Z h0 b2 .byte 1 (fun j => .int (f2 j))) :
    OwCon l (⟨"jdk/internal/util/ArraysSupport", "mismatch", "([B[BI)I"⟩ : MethodName) jdk_48_method_13_code 4 (some .int) ({ frames := 0, cells := 0, slots := 0, locals := 0 } : Room) Z #[(.ref b1), (.ref b2), (.int (1 : Int32))] h0 (fun v h L => ∃ r : Int32, (r = -1 ∨ r = 0) ∧ v = some (.int r) ∧ L = [] ∧ h = h0) := by
  refine OwCon.of pn_21 (Ls := #[.val (.ref b1), .val (.ref b2), .val (.int (1 : Int32)), .unset]) (fun m => by first | (simp [entryFrame, mkF, argsToLocals, Value.category]; done) | rfl) ?_
  intro p e s m below meth c s₁ C X0 e0
  refine ow_iconst (0 : Int32) C X0 d21_0 (by decide) (pc' := 1) rfl ?_
  refine ow_istoreN C X0 d21_1 (Ls' := #[.val (.ref b1), .val (.ref b2), .val (.int (1 : Int32)), .val (.int (0 : Int32))]) rfl (pc' := 2) rfl ?_
  refine ow_iloadN C X0 d21_2 rfl (pc' := 3) rfl ?_
  refine ow_bipush (7 : Int32) C X0 d21_3 (by decide) (pc' := 5) rfl ?_
  refine ow_icmp_le C X0 d21_5 (pcT := 49) (pc' := 8) (by decide) (by decide) rfl (fun _ => ?_) (fun bq => absurd bq (by decide))
  refine ow_iloadN C X0 d21_49 rfl (pc' := 50) rfl ?_
  refine ow_iloadN C X0 d21_50 rfl (pc' := 51) rfl ?_
  refine ow_icmp_ge C X0 d21_51 (pcT := 71) (pc' := 54) (by decide) (by decide) rfl (fun bq => absurd (by decide) bq) (fun _ => ?_)
  refine ow_aloadN C X0 d21_54 rfl rfl (pc' := 55) rfl ?_
  refine ow_iloadN C X0 d21_55 rfl (pc' := 56) rfl ?_
  refine ow_baload (i := 0) C X0 e0 A1 (by decide) (by decide) (Nat.le_of_ble_eq_true rfl) (v := (.int (f1 0))) rfl d21_56 (pc' := 57) rfl ?_
  refine ow_aloadN C X0 d21_57 rfl rfl (pc' := 58) rfl ?_
  refine ow_iloadN C X0 d21_58 rfl (pc' := 59) rfl ?_
  refine ow_baload (i := 0) C X0 e0 A2 (by decide) (by decide) (Nat.le_of_ble_eq_true rfl) (v := (.int (f2 0))) rfl d21_59 (pc' := 60) rfl ?_
  refine ow_icmp_eq C X0 d21_60 (pcT := 65) (pc' := 63) (by decide) (by decide) rfl (fun b60 => ?_) (fun b60 => ?_)
  · refine ow_iinc (1 : Int32) C X0 d21_65 (by decide) rfl (Ls' := #[.val (.ref b1), .val (.ref b2), .val (.int (1 : Int32)), .val (.int ((0 : Int32) + (1 : Int32)))]) rfl (pc' := 68) rfl ?_
    refine ow_goto C X0 d21_68 (pcT := 49) (by decide) (by decide) ?_
    refine ow_iloadN C X0 d21_49 rfl (pc' := 50) rfl ?_
    refine ow_iloadN C X0 d21_50 rfl (pc' := 51) rfl ?_
    refine ow_icmp_ge C X0 d21_51 (pcT := 71) (pc' := 54) (by decide) (by decide) rfl (fun _ => ?_) (fun bq => absurd bq (by decide))
    refine ow_iconst (-1 : Int32) C X0 d21_71 (by decide) (pc' := 72) rfl ?_
    exact ow_retI C X0 d21_72 (Nat.le_of_ble_eq_true rfl) (Nat.le_of_ble_eq_true rfl) ⟨_, Or.inl rfl, rfl, rfl, e0⟩
  · refine ow_iloadN C X0 d21_63 rfl (pc' := 64) rfl ?_
    exact ow_retI C X0 d21_64 (Nat.le_of_ble_eq_true rfl) (Nat.le_of_ble_eq_true rfl) ⟨_, Or.inr rfl, rfl, rfl, e0⟩
theorem d22_0 : decode jdk_43_method_44_code 0 = .ok (.aload_n 0, 1) := by decide +kernel
theorem d22_1 : decode jdk_43_method_44_code 1 = .ok (.iload_n 1, 1) := by decide +kernel
theorem d22_2 : decode jdk_43_method_44_code 2 = .ok (.baload, 1) := by decide +kernel
theorem d22_3 : decode jdk_43_method_44_code 3 = .ok (.sipush 255, 3) := by decide +kernel
theorem d22_6 : decode jdk_43_method_44_code 6 = .ok (.iand, 1) := by decide +kernel
theorem d22_7 : decode jdk_43_method_44_code 7 = .ok (.i2c, 1) := by decide +kernel
theorem d22_8 : decode jdk_43_method_44_code 8 = .ok (.ireturn, 1) := by decide +kernel
theorem pn_22 : plainFor (⟨"java/lang/StringLatin1", "getChar", "([BI)C"⟩ : MethodName) = true := by first | exact plainFor_of_name (by first | (simp [plainName, overriddenIn]; done) | decide +kernel) | decide +kernel
theorem pd_2 : parseMethodDescriptor "([BI)C" = some ⟨[(.array .byte), .int], (some .char)⟩ := by decide +kernel
set_option maxRecDepth 65536 in
set_option maxHeartbeats 40000000 in
theorem rm_gch (l : Launch) (Z : State) (a0 : Array Value) (hw : ∀ d ∈ tables_1, d.before a0 Z = true) (b1 : Addr) (f1 : Nat → Int32) (z : Int32) (hz : z = 0) (h0 : Heap) (A1 : OwA Z h0 b1 .byte 1 (fun j => .int (f1 j))) :
    OwCon l (⟨"java/lang/StringLatin1", "getChar", "([BI)C"⟩ : MethodName) jdk_43_method_44_code 2 (some .char) ({ frames := 0, cells := 0, slots := 0, locals := 0 } : Room) Z #[(.ref b1), (.int z)] h0 (OwPE h0) := by
  refine OwCon.of pn_22 (Ls := #[.val (.ref b1), .val (.int z)]) (fun m => by first | (simp [entryFrame, mkF, argsToLocals, Value.category]; done) | rfl) ?_
  intro p e s m below meth c s₁ C X0 e0
  refine ow_aloadN C X0 d22_0 rfl rfl (pc' := 1) rfl ?_
  refine ow_iloadN C X0 d22_1 rfl (pc' := 2) rfl ?_
  refine ow_baload (i := 0) C X0 e0 A1 (by rw [hz]; decide) (by rw [hz]; rfl) (by decide) (v := (.int (f1 0))) rfl d22_2 (pc' := 3) rfl ?_
  refine ow_sipush (255 : Int32) C X0 d22_3 (by decide) (pc' := 6) rfl ?_
  refine ow_iand C X0 d22_6 (pc' := 7) rfl ?_
  refine ow_i2c C X0 d22_7 (pc' := 8) rfl ?_
  exact ow_retNar C (by simp) X0 d22_8 (Nat.le_of_ble_eq_true rfl) (Nat.le_of_ble_eq_true rfl) ⟨_, rfl, rfl, e0⟩
theorem own_mis0 {r : Int32} (h : r = -1 ∨ r = 0) (q : ¬ r < 0) : r = 0 := h.elim (fun w => absurd (by rw [w]; decide) q) id
theorem d20_0 : decode jdk_29_method_69_code 0 = .ok (.iload_n 0, 1) := by decide +kernel
theorem d20_1 : decode jdk_29_method_69_code 1 = .ok (.iload_n 1, 1) := by decide +kernel
theorem d20_2 : decode jdk_29_method_69_code 2 = .ok (.if_icmp .gt 7, 3) := by decide +kernel
theorem d20_5 : decode jdk_29_method_69_code 5 = .ok (.iload_n 0, 1) := by decide +kernel
theorem d20_6 : decode jdk_29_method_69_code 6 = .ok (.goto 4, 3) := by decide +kernel
theorem d20_9 : decode jdk_29_method_69_code 9 = .ok (.iload_n 1, 1) := by decide +kernel
theorem d20_10 : decode jdk_29_method_69_code 10 = .ok (.ireturn, 1) := by decide +kernel
theorem pn_20 : plainFor (⟨"java/lang/Math", "min", "(II)I"⟩ : MethodName) = true := by first | exact plainFor_of_name (by first | (simp [plainName, overriddenIn]; done) | decide +kernel) | decide +kernel
theorem pd_3 : parseMethodDescriptor "(II)I" = some ⟨[.int, .int], (some .int)⟩ := by decide +kernel
def own_min (q0 : Int32) (q1 : Int32) : Int32 := if q1 < q0 then q1 else q0
set_option maxRecDepth 65536 in
set_option maxHeartbeats 40000000 in
theorem rm_min (l : Launch) (Z : State) (a0 : Array Value) (hw : ∀ d ∈ tables_1, d.before a0 Z = true) (q0 : Int32) (q1 : Int32)  (h0 : Heap)   :
    OwCon l (⟨"java/lang/Math", "min", "(II)I"⟩ : MethodName) jdk_29_method_69_code 2 (some .int) ({ frames := 0, cells := 0, slots := 0, locals := 0 } : Room) Z #[(.int q0), (.int q1)] h0 (OwP (some (.int (own_min q0 q1))) h0) := by
  refine OwCon.of pn_20 (Ls := #[.val (.int q0), .val (.int q1)]) (fun m => by first | (simp [entryFrame, mkF, argsToLocals, Value.category]; done) | rfl) ?_
  intro p e s m below meth c s₁ C X0 e0
  refine ow_iloadN C X0 d20_0 rfl (pc' := 1) rfl ?_
  refine ow_iloadN C X0 d20_1 rfl (pc' := 2) rfl ?_
  refine ow_icmp_gt C X0 d20_2 (pcT := 9) (pc' := 5) (by decide) (by decide) rfl (fun b2 => ?_) (fun b2 => ?_)
  · refine ow_iloadN C X0 d20_9 rfl (pc' := 10) rfl ?_
    exact ow_retI C X0 d20_10 (Nat.le_of_ble_eq_true rfl) (Nat.le_of_ble_eq_true rfl) ⟨(show some (Value.int q1) = some (Value.int (own_min q0 q1)) from congrArg (fun z => some (Value.int z)) (by unfold own_min; rw [if_pos b2])), rfl, e0⟩
  · refine ow_iloadN C X0 d20_5 rfl (pc' := 6) rfl ?_
    refine ow_goto C X0 d20_6 (pcT := 10) (by decide) (by decide) ?_
    exact ow_retI C X0 d20_10 (Nat.le_of_ble_eq_true rfl) (Nat.le_of_ble_eq_true rfl) ⟨(show some (Value.int q0) = some (Value.int (own_min q0 q1)) from congrArg (fun z => some (Value.int z)) (by unfold own_min; rw [if_neg b2])), rfl, e0⟩
theorem d19_0 : decode jdk_43_method_15_code 0 = .ok (.iload_n 2, 1) := by decide +kernel
theorem d19_1 : decode jdk_43_method_15_code 1 = .ok (.iload_n 3, 1) := by decide +kernel
theorem d19_2 : decode jdk_43_method_15_code 2 = .ok (.invokestatic 38, 3) := by decide +kernel
theorem d19_5 : decode jdk_43_method_15_code 5 = .ok (.istore 4, 2) := by decide +kernel
theorem d19_7 : decode jdk_43_method_15_code 7 = .ok (.aload_n 0, 1) := by decide +kernel
theorem d19_8 : decode jdk_43_method_15_code 8 = .ok (.aload_n 1, 1) := by decide +kernel
theorem d19_9 : decode jdk_43_method_15_code 9 = .ok (.iload 4, 2) := by decide +kernel
theorem d19_11 : decode jdk_43_method_15_code 11 = .ok (.invokestatic 44, 3) := by decide +kernel
theorem d19_14 : decode jdk_43_method_15_code 14 = .ok (.istore 5, 2) := by decide +kernel
theorem d19_16 : decode jdk_43_method_15_code 16 = .ok (.iload 5, 2) := by decide +kernel
theorem d19_18 : decode jdk_43_method_15_code 18 = .ok (.ifCond .ge 9, 3) := by decide +kernel
theorem d19_21 : decode jdk_43_method_15_code 21 = .ok (.iload_n 2, 1) := by decide +kernel
theorem d19_22 : decode jdk_43_method_15_code 22 = .ok (.iload_n 3, 1) := by decide +kernel
theorem d19_23 : decode jdk_43_method_15_code 23 = .ok (.isub, 1) := by decide +kernel
theorem d19_24 : decode jdk_43_method_15_code 24 = .ok (.goto 16, 3) := by decide +kernel
theorem d19_27 : decode jdk_43_method_15_code 27 = .ok (.aload_n 0, 1) := by decide +kernel
theorem d19_28 : decode jdk_43_method_15_code 28 = .ok (.iload 5, 2) := by decide +kernel
theorem d19_30 : decode jdk_43_method_15_code 30 = .ok (.invokestatic 50, 3) := by decide +kernel
theorem d19_33 : decode jdk_43_method_15_code 33 = .ok (.aload_n 1, 1) := by decide +kernel
theorem d19_34 : decode jdk_43_method_15_code 34 = .ok (.iload 5, 2) := by decide +kernel
theorem d19_36 : decode jdk_43_method_15_code 36 = .ok (.invokestatic 50, 3) := by decide +kernel
theorem d19_39 : decode jdk_43_method_15_code 39 = .ok (.isub, 1) := by decide +kernel
theorem d19_40 : decode jdk_43_method_15_code 40 = .ok (.ireturn, 1) := by decide +kernel
theorem pn_19 : plainFor (⟨"java/lang/StringLatin1", "compareTo", "([B[BII)I"⟩ : MethodName) = true := by first | exact plainFor_of_name (by first | (simp [plainName, overriddenIn]; done) | decide +kernel) | decide +kernel
theorem pd_4 : parseMethodDescriptor "([B[BII)I" = some ⟨[(.array .byte), (.array .byte), .int, .int], (some .int)⟩ := by decide +kernel
set_option maxRecDepth 65536 in
set_option maxHeartbeats 40000000 in
theorem rm_cm4 (l : Launch) (Z : State) (a0 : Array Value) (hw : ∀ d ∈ tables_1, d.before a0 Z = true) (b1 b2 : Addr) (f1 f2 : Nat → Int32) (h0 : Heap) (A1 : OwA Z h0 b1 .byte 1 (fun j => .int (f1 j))) (A2 : OwA Z h0 b2 .byte 1 (fun j => .int (f2 j))) :
    OwCon l (⟨"java/lang/StringLatin1", "compareTo", "([B[BII)I"⟩ : MethodName) jdk_43_method_15_code 6 (some .int) ({ frames := 1, cells := 0, slots := 0, locals := 15 } : Room) Z #[(.ref b1), (.ref b2), (.int (1 : Int32)), (.int (1 : Int32))] h0 (OwPE h0) := by
  refine OwCon.of pn_19 (Ls := #[.val (.ref b1), .val (.ref b2), .val (.int (1 : Int32)), .val (.int (1 : Int32)), .unset, .unset]) (fun m => by first | (simp [entryFrame, mkF, argsToLocals, Value.category]; done) | rfl) ?_
  intro p e s m below meth c s₁ C X0 e0
  refine ow_iloadN C X0 d19_0 rfl (pc' := 1) rfl ?_
  refine ow_iloadN C X0 d19_1 rfl (pc' := 2) rfl ?_
  refine ow_callSP C X0 e0 (hw _ (List.mem_of_getElem? (i := 146) rfl)) (hw _ (List.mem_of_getElem? (i := 147) rfl)) (hw _ (List.mem_of_getElem? (i := 148) rfl)) (hw _ (List.mem_of_getElem? (i := 149) rfl)) (by decide) (rm_min l Z a0 hw (1 : Int32) (1 : Int32) h0) ⟨rfl, rfl⟩ pd_3 rfl (argsL := [(.int (1 : Int32)), (.int (1 : Int32))]) (rest := []) rfl rfl d19_2 (Nat.le_of_ble_eq_true rfl) (Nat.le_of_ble_eq_true rfl) (Nat.le_of_ble_eq_true rfl) (Nat.le_of_ble_eq_true rfl) (pc' := 5) rfl (fun T3 X3 e3 => ?_)
  rw [show own_min (1 : Int32) (1 : Int32) = (1 : Int32) from by decide]
  refine ow_istore C X3 d19_5 (Ls' := #[.val (.ref b1), .val (.ref b2), .val (.int (1 : Int32)), .val (.int (1 : Int32)), .val (.int (1 : Int32)), .unset]) rfl (pc' := 7) rfl ?_
  refine ow_aloadN C X3 d19_7 rfl rfl (pc' := 8) rfl ?_
  refine ow_aloadN C X3 d19_8 rfl rfl (pc' := 9) rfl ?_
  refine ow_iload C X3 d19_9 rfl (pc' := 11) rfl ?_
  refine ow_callS C X3 e3 (hw _ (List.mem_of_getElem? (i := 150) rfl)) (hw _ (List.mem_of_getElem? (i := 151) rfl)) (hw _ (List.mem_of_getElem? (i := 152) rfl)) (hw _ (List.mem_of_getElem? (i := 153) rfl)) (by decide) (rm_mis l Z a0 hw b1 b2 f1 f2 h0 A1 A2) pd_1 rfl (argsL := [(.ref b1), (.ref b2), (.int (1 : Int32))]) (rest := []) rfl rfl d19_11 (Nat.le_of_ble_eq_true rfl) (Nat.le_of_ble_eq_true rfl) (Nat.le_of_ble_eq_true rfl) (Nat.le_of_ble_eq_true rfl) (pc' := 14) rfl (fun T4 v4 L4 X4 Q4 => ?_)
  obtain ⟨r4, hr4, rfl, rfl, Hc4⟩ := Q4
  rw [List.append_nil] at X4
  show OwF p e below _ T4 (mkF m 14 #[.val (.ref b1), .val (.ref b2), .val (.int (1 : Int32)), .val (.int (1 : Int32)), .val (.int (1 : Int32)), .unset] [(.int r4)])
  refine ow_istore C X4 d19_14 (Ls' := #[.val (.ref b1), .val (.ref b2), .val (.int (1 : Int32)), .val (.int (1 : Int32)), .val (.int (1 : Int32)), .val (.int r4)]) rfl (pc' := 16) rfl ?_
  refine ow_iload C X4 d19_16 rfl (pc' := 18) rfl ?_
  refine ow_if_ge C X4 d19_18 (pcT := 27) (pc' := 21) (by decide) (by decide) rfl (fun b18 => ?_) (fun b18 => ?_)
  · refine ow_aloadN C X4 d19_27 rfl rfl (pc' := 28) rfl ?_
    refine ow_iload C X4 d19_28 rfl (pc' := 30) rfl ?_
    refine ow_callS C X4 Hc4 (hw _ (List.mem_of_getElem? (i := 154) rfl)) (hw _ (List.mem_of_getElem? (i := 155) rfl)) (hw _ (List.mem_of_getElem? (i := 107) rfl)) (hw _ (List.mem_of_getElem? (i := 156) rfl)) (by decide) (rm_gch l Z a0 hw b1 f1 r4 (own_mis0 hr4 b18) h0 A1) pd_2 rfl (argsL := [(.ref b1), (.int r4)]) (rest := []) rfl rfl d19_30 (Nat.le_of_ble_eq_true rfl) (Nat.le_of_ble_eq_true rfl) (Nat.le_of_ble_eq_true rfl) (Nat.le_of_ble_eq_true rfl) (pc' := 33) rfl (fun T5 v5 L5 X5 Q5 => ?_)
    obtain ⟨r5, rfl, rfl, Hc5⟩ := Q5
    rw [List.append_nil] at X5
    show OwF p e below _ T5 (mkF m 33 #[.val (.ref b1), .val (.ref b2), .val (.int (1 : Int32)), .val (.int (1 : Int32)), .val (.int (1 : Int32)), .val (.int r4)] [(.int r5)])
    refine ow_aloadN C X5 d19_33 rfl rfl (pc' := 34) rfl ?_
    refine ow_iload C X5 d19_34 rfl (pc' := 36) rfl ?_
    refine ow_callS C X5 Hc5 (hw _ (List.mem_of_getElem? (i := 154) rfl)) (hw _ (List.mem_of_getElem? (i := 155) rfl)) (hw _ (List.mem_of_getElem? (i := 107) rfl)) (hw _ (List.mem_of_getElem? (i := 156) rfl)) (by decide) (rm_gch l Z a0 hw b2 f2 r4 (own_mis0 hr4 b18) h0 A2) pd_2 rfl (argsL := [(.ref b2), (.int r4)]) (rest := [(.int r5)]) rfl rfl d19_36 (Nat.le_of_ble_eq_true rfl) (Nat.le_of_ble_eq_true rfl) (Nat.le_of_ble_eq_true rfl) (Nat.le_of_ble_eq_true rfl) (pc' := 39) rfl (fun T6 v6 L6 X6 Q6 => ?_)
    obtain ⟨r6, rfl, rfl, Hc6⟩ := Q6
    rw [List.append_nil] at X6
    show OwF p e below _ T6 (mkF m 39 #[.val (.ref b1), .val (.ref b2), .val (.int (1 : Int32)), .val (.int (1 : Int32)), .val (.int (1 : Int32)), .val (.int r4)] [(.int r6), (.int r5)])
    refine ow_isub C X6 d19_39 (pc' := 40) rfl ?_
    exact ow_retI C X6 d19_40 (Nat.le_of_ble_eq_true rfl) (Nat.le_of_ble_eq_true rfl) ⟨_, rfl, rfl, Hc6⟩
  · refine ow_iloadN C X4 d19_21 rfl (pc' := 22) rfl ?_
    refine ow_iloadN C X4 d19_22 rfl (pc' := 23) rfl ?_
    refine ow_isub C X4 d19_23 (pc' := 24) rfl ?_
    refine ow_goto C X4 d19_24 (pcT := 40) (by decide) (by decide) ?_
    exact ow_retI C X4 d19_40 (Nat.le_of_ble_eq_true rfl) (Nat.le_of_ble_eq_true rfl) ⟨_, rfl, rfl, Hc4⟩
theorem d18_0 : decode jdk_43_method_14_code 0 = .ok (.aload_n 0, 1) := by decide +kernel
theorem d18_1 : decode jdk_43_method_14_code 1 = .ok (.arraylength, 1) := by decide +kernel
theorem d18_2 : decode jdk_43_method_14_code 2 = .ok (.istore_n 2, 1) := by decide +kernel
theorem d18_3 : decode jdk_43_method_14_code 3 = .ok (.aload_n 1, 1) := by decide +kernel
theorem d18_4 : decode jdk_43_method_14_code 4 = .ok (.arraylength, 1) := by decide +kernel
theorem d18_5 : decode jdk_43_method_14_code 5 = .ok (.istore_n 3, 1) := by decide +kernel
theorem d18_6 : decode jdk_43_method_14_code 6 = .ok (.aload_n 0, 1) := by decide +kernel
theorem d18_7 : decode jdk_43_method_14_code 7 = .ok (.aload_n 1, 1) := by decide +kernel
theorem d18_8 : decode jdk_43_method_14_code 8 = .ok (.iload_n 2, 1) := by decide +kernel
theorem d18_9 : decode jdk_43_method_14_code 9 = .ok (.iload_n 3, 1) := by decide +kernel
theorem d18_10 : decode jdk_43_method_14_code 10 = .ok (.invokestatic 34, 3) := by decide +kernel
theorem d18_13 : decode jdk_43_method_14_code 13 = .ok (.ireturn, 1) := by decide +kernel
theorem pn_18 : plainFor (⟨"java/lang/StringLatin1", "compareTo", "([B[B)I"⟩ : MethodName) = true := by first | exact plainFor_of_name (by first | (simp [plainName, overriddenIn]; done) | decide +kernel) | decide +kernel
theorem pd_5 : parseMethodDescriptor "([B[B)I" = some ⟨[(.array .byte), (.array .byte)], (some .int)⟩ := by decide +kernel
set_option maxRecDepth 65536 in
set_option maxHeartbeats 40000000 in
theorem rm_cm2 (l : Launch) (Z : State) (a0 : Array Value) (hw : ∀ d ∈ tables_1, d.before a0 Z = true) (b1 b2 : Addr) (f1 f2 : Nat → Int32) (h0 : Heap) (A1 : OwA Z h0 b1 .byte 1 (fun j => .int (f1 j))) (A2 : OwA Z h0 b2 .byte 1 (fun j => .int (f2 j))) :
    OwCon l (⟨"java/lang/StringLatin1", "compareTo", "([B[B)I"⟩ : MethodName) jdk_43_method_14_code 4 (some .int) ({ frames := 2, cells := 0, slots := 0, locals := 32 } : Room) Z #[(.ref b1), (.ref b2)] h0 (OwPE h0) := by
  refine OwCon.of pn_18 (Ls := #[.val (.ref b1), .val (.ref b2), .unset, .unset]) (fun m => by first | (simp [entryFrame, mkF, argsToLocals, Value.category]; done) | rfl) ?_
  intro p e s m below meth c s₁ C X0 e0
  refine ow_aloadN C X0 d18_0 rfl rfl (pc' := 1) rfl ?_
  refine ow_arraylength C X0 e0 A1 (z := (1 : Int32)) (by decide) d18_1 (pc' := 2) rfl ?_
  refine ow_istoreN C X0 d18_2 (Ls' := #[.val (.ref b1), .val (.ref b2), .val (.int (1 : Int32)), .unset]) rfl (pc' := 3) rfl ?_
  refine ow_aloadN C X0 d18_3 rfl rfl (pc' := 4) rfl ?_
  refine ow_arraylength C X0 e0 A2 (z := (1 : Int32)) (by decide) d18_4 (pc' := 5) rfl ?_
  refine ow_istoreN C X0 d18_5 (Ls' := #[.val (.ref b1), .val (.ref b2), .val (.int (1 : Int32)), .val (.int (1 : Int32))]) rfl (pc' := 6) rfl ?_
  refine ow_aloadN C X0 d18_6 rfl rfl (pc' := 7) rfl ?_
  refine ow_aloadN C X0 d18_7 rfl rfl (pc' := 8) rfl ?_
  refine ow_iloadN C X0 d18_8 rfl (pc' := 9) rfl ?_
  refine ow_iloadN C X0 d18_9 rfl (pc' := 10) rfl ?_
  refine ow_callS C X0 e0 (hw _ (List.mem_of_getElem? (i := 143) rfl)) (hw _ (List.mem_of_getElem? (i := 144) rfl)) (hw _ (List.mem_of_getElem? (i := 107) rfl)) (hw _ (List.mem_of_getElem? (i := 145) rfl)) (by decide) (rm_cm4 l Z a0 hw b1 b2 f1 f2 h0 A1 A2) pd_4 rfl (argsL := [(.ref b1), (.ref b2), (.int (1 : Int32)), (.int (1 : Int32))]) (rest := []) rfl rfl d18_10 (Nat.le_of_ble_eq_true rfl) (Nat.le_of_ble_eq_true rfl) (Nat.le_of_ble_eq_true rfl) (Nat.le_of_ble_eq_true rfl) (pc' := 13) rfl (fun T7 v7 L7 X7 Q7 => ?_)
  obtain ⟨r7, rfl, rfl, Hc7⟩ := Q7
  rw [List.append_nil] at X7
  show OwF p e below _ T7 (mkF m 13 #[.val (.ref b1), .val (.ref b2), .val (.int (1 : Int32)), .val (.int (1 : Int32))] [(.int r7)])
  exact ow_retI C X7 d18_13 (Nat.le_of_ble_eq_true rfl) (Nat.le_of_ble_eq_true rfl) ⟨_, rfl, rfl, Hc7⟩
theorem d17_0 : decode jdk_42_method_152_code 0 = .ok (.getstatic 38, 3) := by decide +kernel
theorem d17_3 : decode jdk_42_method_152_code 3 = .ok (.ifCond .eq 10, 3) := by decide +kernel
theorem d17_6 : decode jdk_42_method_152_code 6 = .ok (.aload_n 0, 1) := by decide +kernel
theorem d17_7 : decode jdk_42_method_152_code 7 = .ok (.getfield 15, 3) := by decide +kernel
theorem d17_10 : decode jdk_42_method_152_code 10 = .ok (.goto 4, 3) := by decide +kernel
theorem d17_13 : decode jdk_42_method_152_code 13 = .ok (.iconst 1, 1) := by decide +kernel
theorem d17_14 : decode jdk_42_method_152_code 14 = .ok (.ireturn, 1) := by decide +kernel
theorem pn_17 : plainFor (⟨"java/lang/String", "coder", "()B"⟩ : MethodName) = true := by first | exact plainFor_of_name (by first | (simp [plainName, overriddenIn]; done) | decide +kernel) | decide +kernel
theorem pd_6 : parseMethodDescriptor "()B" = some ⟨[], (some .byte)⟩ := by decide +kernel
set_option maxRecDepth 65536 in
set_option maxHeartbeats 40000000 in
theorem rm_cod (l : Launch) (Z : State) (a0 : Array Value) (hw : ∀ d ∈ tables_1, d.before a0 Z = true) (o : Addr) (h0 : Heap) (ck : Int32) (hck : ¬ ck = 0) (SC : Sta Z h0 "java/lang/String" "COMPACT_STRINGS" "Z" (.int ck)) (F : Fld Z h0 o "java/lang/String" "coder" "B" (.int 0)) :
    OwCon l (⟨"java/lang/String", "coder", "()B"⟩ : MethodName) jdk_42_method_152_code 1 (some .byte) ({ frames := 0, cells := 0, slots := 0, locals := 0 } : Room) Z #[(.ref o)] h0 (OwP (some (.int 0)) h0) := by
  refine OwCon.of pn_17 (Ls := #[.val (.ref o)]) (fun m => by first | (simp [entryFrame, mkF, argsToLocals, Value.category]; done) | rfl) ?_
  intro p e s m below meth c s₁ C X0 e0
  refine ow_getS C X0 e0 (hw _ (List.mem_of_getElem? (i := 104) rfl)) SC d17_0 (pc' := 3) rfl (fun T8 X8 e8 => ?_)
  refine ow_if_eq C X8 d17_3 (pcT := 13) (pc' := 6) (by decide) (by decide) rfl (fun bq => absurd bq hck) (fun _ => ?_)
  refine ow_aloadN C X8 d17_6 rfl rfl (pc' := 7) rfl ?_
  refine ow_getF C X8 e8 (hw _ (List.mem_of_getElem? (i := 119) rfl)) F d17_7 (pc' := 10) rfl (fun T9 X9 e9 => ?_)
  refine ow_goto C X9 d17_10 (pcT := 14) (by decide) (by decide) ?_
  exact ow_retNar (t := .byte) (z := 0) C (by simp) X9 d17_14 (Nat.le_of_ble_eq_true rfl) (Nat.le_of_ble_eq_true rfl) ⟨rfl, rfl, e9⟩
theorem d16_0 : decode jdk_42_method_71_code 0 = .ok (.aload_n 0, 1) := by decide +kernel
theorem d16_1 : decode jdk_42_method_71_code 1 = .ok (.getfield 9, 3) := by decide +kernel
theorem d16_4 : decode jdk_42_method_71_code 4 = .ok (.astore_n 2, 1) := by decide +kernel
theorem d16_5 : decode jdk_42_method_71_code 5 = .ok (.aload_n 1, 1) := by decide +kernel
theorem d16_6 : decode jdk_42_method_71_code 6 = .ok (.getfield 9, 3) := by decide +kernel
theorem d16_9 : decode jdk_42_method_71_code 9 = .ok (.astore_n 3, 1) := by decide +kernel
theorem d16_10 : decode jdk_42_method_71_code 10 = .ok (.aload_n 0, 1) := by decide +kernel
theorem d16_11 : decode jdk_42_method_71_code 11 = .ok (.invokevirtual 335, 3) := by decide +kernel
theorem d16_14 : decode jdk_42_method_71_code 14 = .ok (.istore 4, 2) := by decide +kernel
theorem d16_16 : decode jdk_42_method_71_code 16 = .ok (.iload 4, 2) := by decide +kernel
theorem d16_18 : decode jdk_42_method_71_code 18 = .ok (.aload_n 1, 1) := by decide +kernel
theorem d16_19 : decode jdk_42_method_71_code 19 = .ok (.invokevirtual 335, 3) := by decide +kernel
theorem d16_22 : decode jdk_42_method_71_code 22 = .ok (.if_icmp .ne 22, 3) := by decide +kernel
theorem d16_25 : decode jdk_42_method_71_code 25 = .ok (.iload 4, 2) := by decide +kernel
theorem d16_27 : decode jdk_42_method_71_code 27 = .ok (.ifCond .ne 11, 3) := by decide +kernel
theorem d16_30 : decode jdk_42_method_71_code 30 = .ok (.aload_n 2, 1) := by decide +kernel
theorem d16_31 : decode jdk_42_method_71_code 31 = .ok (.aload_n 3, 1) := by decide +kernel
theorem d16_32 : decode jdk_42_method_71_code 32 = .ok (.invokestatic 586, 3) := by decide +kernel
theorem d16_35 : decode jdk_42_method_71_code 35 = .ok (.goto 8, 3) := by decide +kernel
theorem d16_38 : decode jdk_42_method_71_code 38 = .ok (.aload_n 2, 1) := by decide +kernel
theorem d16_39 : decode jdk_42_method_71_code 39 = .ok (.aload_n 3, 1) := by decide +kernel
theorem d16_40 : decode jdk_42_method_71_code 40 = .ok (.invokestatic 590, 3) := by decide +kernel
theorem d16_43 : decode jdk_42_method_71_code 43 = .ok (.ireturn, 1) := by decide +kernel
theorem d16_44 : decode jdk_42_method_71_code 44 = .ok (.iload 4, 2) := by decide +kernel
theorem d16_46 : decode jdk_42_method_71_code 46 = .ok (.ifCond .ne 11, 3) := by decide +kernel
theorem d16_49 : decode jdk_42_method_71_code 49 = .ok (.aload_n 2, 1) := by decide +kernel
theorem d16_50 : decode jdk_42_method_71_code 50 = .ok (.aload_n 3, 1) := by decide +kernel
theorem d16_51 : decode jdk_42_method_71_code 51 = .ok (.invokestatic 591, 3) := by decide +kernel
theorem d16_54 : decode jdk_42_method_71_code 54 = .ok (.goto 8, 3) := by decide +kernel
theorem d16_57 : decode jdk_42_method_71_code 57 = .ok (.aload_n 2, 1) := by decide +kernel
theorem d16_58 : decode jdk_42_method_71_code 58 = .ok (.aload_n 3, 1) := by decide +kernel
theorem d16_59 : decode jdk_42_method_71_code 59 = .ok (.invokestatic 594, 3) := by decide +kernel
theorem d16_62 : decode jdk_42_method_71_code 62 = .ok (.ireturn, 1) := by decide +kernel
theorem pn_16 : plainFor (⟨"java/lang/String", "compareTo", "(Ljava/lang/String;)I"⟩ : MethodName) = true := by first | exact plainFor_of_name (by first | (simp [plainName, overriddenIn]; done) | decide +kernel) | decide +kernel
theorem pd_7 : parseMethodDescriptor "(Ljava/lang/String;)I" = some ⟨[(.object "java/lang/String")], (some .int)⟩ := by decide +kernel
set_option maxRecDepth 65536 in
set_option maxHeartbeats 40000000 in
theorem rm_cmp (l : Launch) (Z : State) (a0 : Array Value) (hw : ∀ d ∈ tables_1, d.before a0 Z = true) (s1 s2 : Addr) (h0 : Heap) (ck : Int32) (hck : ¬ ck = 0) (SC : Sta Z h0 "java/lang/String" "COMPACT_STRINGS" "Z" (.int ck)) (S1 : OwStr Z h0 s1) (S2 : OwStr Z h0 s2) :
    OwCon l (⟨"java/lang/String", "compareTo", "(Ljava/lang/String;)I"⟩ : MethodName) jdk_42_method_71_code 5 (some .int) ({ frames := 3, cells := 0, slots := 0, locals := 47 } : Room) Z #[(.ref s1), (.ref s2)] h0 (OwPE h0) := by
  obtain ⟨b1, f1, R1, R2, R3, R4⟩ := S1
  obtain ⟨b2, f2, U1, U2, U3, U4⟩ := S2
  refine OwCon.of pn_16 (Ls := #[.val (.ref s1), .val (.ref s2), .unset, .unset, .unset]) (fun m => by first | (simp [entryFrame, mkF, argsToLocals, Value.category]; done) | rfl) ?_
  intro p e s m below meth c s₁ C X0 e0
  refine ow_aloadN C X0 d16_0 rfl rfl (pc' := 1) rfl ?_
  refine ow_getF C X0 e0 (hw _ (List.mem_of_getElem? (i := 118) rfl)) R2 d16_1 (pc' := 4) rfl (fun T10 X10 e10 => ?_)
  refine ow_astoreN C X10 d16_4 rfl (Ls' := #[.val (.ref s1), .val (.ref s2), .val (.ref b1), .unset, .unset]) rfl (pc' := 5) rfl ?_
  refine ow_aloadN C X10 d16_5 rfl rfl (pc' := 6) rfl ?_
  refine ow_getF C X10 e10 (hw _ (List.mem_of_getElem? (i := 118) rfl)) U2 d16_6 (pc' := 9) rfl (fun T11 X11 e11 => ?_)
  refine ow_astoreN C X11 d16_9 rfl (Ls' := #[.val (.ref s1), .val (.ref s2), .val (.ref b1), .val (.ref b2), .unset]) rfl (pc' := 10) rfl ?_
  refine ow_aloadN C X11 d16_10 rfl rfl (pc' := 11) rfl ?_
  refine ow_callV C X11 e11 (hw _ (List.mem_of_getElem? (i := 135) rfl)) (hw _ (List.mem_of_getElem? (i := 136) rfl)) (hw _ (List.mem_of_getElem? (i := 138) rfl)) rfl (hw _ (List.mem_of_getElem? (i := 137) rfl)) (hw _ (List.mem_of_getElem? (i := 20) rfl)) (hw _ (List.mem_of_getElem? (i := 139) rfl)) (by decide) R1 (rm_cod l Z a0 hw s1 h0 ck hck SC R3) pd_6 rfl (argsL := []) (rest := []) rfl rfl d16_11 (Nat.le_of_ble_eq_true rfl) (Nat.le_of_ble_eq_true rfl) (Nat.le_of_ble_eq_true rfl) (Nat.le_of_ble_eq_true rfl) (pc' := 14) rfl (fun T12 v12 L12 X12 Q12 => ?_)
  obtain ⟨rfl, rfl, Hc12⟩ := Q12
  rw [List.append_nil] at X12
  show OwF p e below _ T12 (mkF m 14 #[.val (.ref s1), .val (.ref s2), .val (.ref b1), .val (.ref b2), .unset] [(.int (0 : Int32))])
  refine ow_istore C X12 d16_14 (Ls' := #[.val (.ref s1), .val (.ref s2), .val (.ref b1), .val (.ref b2), .val (.int (0 : Int32))]) rfl (pc' := 16) rfl ?_
  refine ow_iload C X12 d16_16 rfl (pc' := 18) rfl ?_
  refine ow_aloadN C X12 d16_18 rfl rfl (pc' := 19) rfl ?_
  refine ow_callV C X12 Hc12 (hw _ (List.mem_of_getElem? (i := 135) rfl)) (hw _ (List.mem_of_getElem? (i := 136) rfl)) (hw _ (List.mem_of_getElem? (i := 138) rfl)) rfl (hw _ (List.mem_of_getElem? (i := 137) rfl)) (hw _ (List.mem_of_getElem? (i := 20) rfl)) (hw _ (List.mem_of_getElem? (i := 139) rfl)) (by decide) U1 (rm_cod l Z a0 hw s2 h0 ck hck SC U3) pd_6 rfl (argsL := []) (rest := [(.int (0 : Int32))]) rfl rfl d16_19 (Nat.le_of_ble_eq_true rfl) (Nat.le_of_ble_eq_true rfl) (Nat.le_of_ble_eq_true rfl) (Nat.le_of_ble_eq_true rfl) (pc' := 22) rfl (fun T13 v13 L13 X13 Q13 => ?_)
  obtain ⟨rfl, rfl, Hc13⟩ := Q13
  rw [List.append_nil] at X13
  show OwF p e below _ T13 (mkF m 22 #[.val (.ref s1), .val (.ref s2), .val (.ref b1), .val (.ref b2), .val (.int (0 : Int32))] [(.int (0 : Int32)), (.int (0 : Int32))])
  refine ow_icmp_ne C X13 d16_22 (pcT := 44) (pc' := 25) (by decide) (by decide) rfl (fun bq => absurd (by decide) bq) (fun _ => ?_)
  refine ow_iload C X13 d16_25 rfl (pc' := 27) rfl ?_
  refine ow_if_ne C X13 d16_27 (pcT := 38) (pc' := 30) (by decide) (by decide) rfl (fun bq => absurd (by decide) bq) (fun _ => ?_)
  refine ow_aloadN C X13 d16_30 rfl rfl (pc' := 31) rfl ?_
  refine ow_aloadN C X13 d16_31 rfl rfl (pc' := 32) rfl ?_
  refine ow_callS C X13 Hc13 (hw _ (List.mem_of_getElem? (i := 140) rfl)) (hw _ (List.mem_of_getElem? (i := 141) rfl)) (hw _ (List.mem_of_getElem? (i := 107) rfl)) (hw _ (List.mem_of_getElem? (i := 142) rfl)) (by decide) (rm_cm2 l Z a0 hw b1 b2 f1 f2 h0 R4 U4) pd_5 rfl (argsL := [(.ref b1), (.ref b2)]) (rest := []) rfl rfl d16_32 (Nat.le_of_ble_eq_true rfl) (Nat.le_of_ble_eq_true rfl) (Nat.le_of_ble_eq_true rfl) (Nat.le_of_ble_eq_true rfl) (pc' := 35) rfl (fun T14 v14 L14 X14 Q14 => ?_)
  obtain ⟨r14, rfl, rfl, Hc14⟩ := Q14
  rw [List.append_nil] at X14
  show OwF p e below _ T14 (mkF m 35 #[.val (.ref s1), .val (.ref s2), .val (.ref b1), .val (.ref b2), .val (.int (0 : Int32))] [(.int r14)])
  refine ow_goto C X14 d16_35 (pcT := 43) (by decide) (by decide) ?_
  exact ow_retI C X14 d16_43 (Nat.le_of_ble_eq_true rfl) (Nat.le_of_ble_eq_true rfl) ⟨_, rfl, rfl, Hc14⟩
theorem d15_0 : decode prog_2_method_3_code 0 = .ok (.aload_n 0, 1) := by decide +kernel
theorem d15_1 : decode prog_2_method_3_code 1 = .ok (.invokevirtual 16, 3) := by decide +kernel
theorem d15_4 : decode prog_2_method_3_code 4 = .ok (.ifCond .eq 14, 3) := by decide +kernel
theorem d15_7 : decode prog_2_method_3_code 7 = .ok (.aload_n 1, 1) := by decide +kernel
theorem d15_8 : decode prog_2_method_3_code 8 = .ok (.aload_n 0, 1) := by decide +kernel
theorem d15_9 : decode prog_2_method_3_code 9 = .ok (.getfield 24, 3) := by decide +kernel
theorem d15_12 : decode prog_2_method_3_code 12 = .ok (.invokevirtual 28, 3) := by decide +kernel
theorem d15_15 : decode prog_2_method_3_code 15 = .ok (.goto 4, 3) := by decide +kernel
theorem d15_18 : decode prog_2_method_3_code 18 = .ok (.iconst (-1), 1) := by decide +kernel
theorem d15_19 : decode prog_2_method_3_code 19 = .ok (.istore 4, 2) := by decide +kernel
theorem d15_21 : decode prog_2_method_3_code 21 = .ok (.iload 4, 2) := by decide +kernel
theorem d15_23 : decode prog_2_method_3_code 23 = .ok (.ifCond .lt 16, 3) := by decide +kernel
theorem d15_26 : decode prog_2_method_3_code 26 = .ok (.iload 4, 2) := by decide +kernel
theorem d15_28 : decode prog_2_method_3_code 28 = .ok (.ifCond .ne 26, 3) := by decide +kernel
theorem d15_31 : decode prog_2_method_3_code 31 = .ok (.iload_n 2, 1) := by decide +kernel
theorem d15_32 : decode prog_2_method_3_code 32 = .ok (.aload_n 0, 1) := by decide +kernel
theorem d15_33 : decode prog_2_method_3_code 33 = .ok (.getfield 34, 3) := by decide +kernel
theorem d15_36 : decode prog_2_method_3_code 36 = .ok (.if_icmp .ge 18, 3) := by decide +kernel
theorem d15_39 : decode prog_2_method_3_code 39 = .ok (.aload_n 0, 1) := by decide +kernel
theorem d15_40 : decode prog_2_method_3_code 40 = .ok (.aload_n 1, 1) := by decide +kernel
theorem d15_41 : decode prog_2_method_3_code 41 = .ok (.putfield 24, 3) := by decide +kernel
theorem d15_44 : decode prog_2_method_3_code 44 = .ok (.aload_n 0, 1) := by decide +kernel
theorem d15_45 : decode prog_2_method_3_code 45 = .ok (.iload_n 2, 1) := by decide +kernel
theorem d15_46 : decode prog_2_method_3_code 46 = .ok (.putfield 34, 3) := by decide +kernel
theorem d15_49 : decode prog_2_method_3_code 49 = .ok (.aload_n 0, 1) := by decide +kernel
theorem d15_50 : decode prog_2_method_3_code 50 = .ok (.aload_n 3, 1) := by decide +kernel
theorem d15_51 : decode prog_2_method_3_code 51 = .ok (.putfield 20, 3) := by decide +kernel
theorem d15_54 : decode prog_2_method_3_code 54 = .ok (.return_, 1) := by decide +kernel
theorem pn_15 : plainFor (⟨"com/example/topsail/topsail/FirstRefusal", "offer", "(Ljava/lang/String;ILcom/example/topsail/topsail/UnmatchableValueException;)V"⟩ : MethodName) = true := by first | exact plainFor_of_name (by first | (simp [plainName, overriddenIn]; done) | decide +kernel) | decide +kernel
theorem pd_8 : parseMethodDescriptor "(Ljava/lang/String;ILcom/example/topsail/topsail/UnmatchableValueException;)V" = some ⟨[(.object "java/lang/String"), .int, (.object "com/example/topsail/topsail/UnmatchableValueException")], none⟩ := by decide +kernel
set_option maxRecDepth 65536 in
set_option maxHeartbeats 40000000 in
theorem rm_offA (l : Launch) (Z : State) (a0 : Array Value) (hw : ∀ d ∈ tables_1, d.before a0 Z = true) (o s1 x : Addr) (z : Int32) (h0 : Heap) (n0 : Nat) (g0 : n0 ≤ o) (E0 : Exa Z h0 o "com/example/topsail/topsail/FirstRefusal") (F1 : Fld Z h0 o "com/example/topsail/topsail/FirstRefusal" "id" "Ljava/lang/String;" .null) (F2 : Fld Z h0 o "com/example/topsail/topsail/FirstRefusal" "position" "I" (.int 0)) (F3 : Fld Z h0 o "com/example/topsail/topsail/FirstRefusal" "reason" "Lcom/example/topsail/topsail/UnmatchableValueException;" .null) :
    OwCon l (⟨"com/example/topsail/topsail/FirstRefusal", "offer", "(Ljava/lang/String;ILcom/example/topsail/topsail/UnmatchableValueException;)V"⟩ : MethodName) prog_2_method_3_code 5 none ({ frames := 1, cells := 0, slots := 0, locals := 12 } : Room) Z #[(.ref o), (.ref s1), (.int z), (.ref x)] h0 (fun v h L => v = none ∧ Fr n0 L ∧ Keep h0 h [o] ∧ Exa Z h o "com/example/topsail/topsail/FirstRefusal" ∧ Fld Z h o "com/example/topsail/topsail/FirstRefusal" "reason" "Lcom/example/topsail/topsail/UnmatchableValueException;" (.ref x) ∧ ∃ (sn : Addr) (zn : Int32), sn = s1 ∧ Fld Z h o "com/example/topsail/topsail/FirstRefusal" "id" "Ljava/lang/String;" (.ref sn) ∧ Fld Z h o "com/example/topsail/topsail/FirstRefusal" "position" "I" (.int zn)) := by
  refine OwCon.of pn_15 (Ls := #[.val (.ref o), .val (.ref s1), .val (.int z), .val (.ref x), .unset]) (fun m => by first | (simp [entryFrame, mkF, argsToLocals, Value.category]; done) | rfl) ?_
  intro p e s m below meth c s₁ C X0 e0
  refine ow_aloadN C X0 d15_0 rfl rfl (pc' := 1) rfl ?_
  refine ow_callV C X0 e0 (hw _ (List.mem_of_getElem? (i := 125) rfl)) (hw _ (List.mem_of_getElem? (i := 10) rfl)) (hw _ (List.mem_of_getElem? (i := 12) rfl)) rfl (hw _ (List.mem_of_getElem? (i := 11) rfl)) (hw _ (List.mem_of_getElem? (i := 2) rfl)) (hw _ (List.mem_of_getElem? (i := 13) rfl)) (by decide) E0 (rm_fndN l Z a0 hw o h0 F3) pd_0 rfl (argsL := []) (rest := []) rfl rfl d15_1 (Nat.le_of_ble_eq_true rfl) (Nat.le_of_ble_eq_true rfl) (Nat.le_of_ble_eq_true rfl) (Nat.le_of_ble_eq_true rfl) (pc' := 4) rfl (fun T15 v15 L15 X15 Q15 => ?_)
  obtain ⟨rfl, rfl, Hc15⟩ := Q15
  rw [List.append_nil] at X15
  show OwF p e below _ T15 (mkF m 4 #[.val (.ref o), .val (.ref s1), .val (.int z), .val (.ref x), .unset] [(.int (0 : Int32))])
  refine ow_if_eq C X15 d15_4 (pcT := 18) (pc' := 7) (by decide) (by decide) rfl (fun _ => ?_) (fun bq => absurd (by decide) bq)
  refine ow_iconst (-1 : Int32) C X15 d15_18 (by decide) (pc' := 19) rfl ?_
  refine ow_istore C X15 d15_19 (Ls' := #[.val (.ref o), .val (.ref s1), .val (.int z), .val (.ref x), .val (.int (-1 : Int32))]) rfl (pc' := 21) rfl ?_
  refine ow_iload C X15 d15_21 rfl (pc' := 23) rfl ?_
  refine ow_if_lt C X15 d15_23 (pcT := 39) (pc' := 26) (by decide) (by decide) rfl (fun _ => ?_) (fun bq => absurd (by decide) bq)
  refine ow_aloadN C X15 d15_39 rfl rfl (pc' := 40) rfl ?_
  refine ow_aloadN C X15 d15_40 rfl rfl (pc' := 41) rfl ?_
  refine ow_putF C X15 Hc15 (hw _ (List.mem_of_getElem? (i := 126) rfl)) F1 E0 (Or.inl (hw _ (List.mem_of_getElem? (i := 127) rfl))) (hw _ (List.mem_of_getElem? (i := 1) rfl)) (ty := (.object "java/lang/String")) (by decide) rfl rfl d15_41 (pc' := 44) rfl (fun T16 h16 X16 e16 W16 => ?_)
  have E16_0 := E0.wr W16
  have F16_1 := F1.same W16
  have F16_2 := F2.other W16 (Or.inr (slot_ne (Or.inl (hw _ (List.mem_of_getElem? (i := 129) rfl))) (Or.inl (hw _ (List.mem_of_getElem? (i := 127) rfl))) (by decide) (t := .int) (t' := (.object "java/lang/String")) (by decide) (by decide)))
  have F16_3 := F3.other W16 (Or.inr (slot_ne (Or.inl (hw _ (List.mem_of_getElem? (i := 15) rfl))) (Or.inl (hw _ (List.mem_of_getElem? (i := 127) rfl))) (by decide) (t := (.object "com/example/topsail/topsail/UnmatchableValueException")) (t' := (.object "java/lang/String")) (by decide) (by decide)))
  have K16 : Keep h0 h16 [o] := (Keep.refl h0 [o]).wr W16 (Or.inl (List.mem_singleton.mpr rfl))
  have N16 := Fr.snoc X16 (Fr.nil n0) g0
  refine ow_aloadN C X16 d15_44 rfl rfl (pc' := 45) rfl ?_
  refine ow_iloadN C X16 d15_45 rfl (pc' := 46) rfl ?_
  refine ow_putF C X16 e16 (hw _ (List.mem_of_getElem? (i := 128) rfl)) F16_2 E16_0 (Or.inl (hw _ (List.mem_of_getElem? (i := 129) rfl))) (hw _ (List.mem_of_getElem? (i := 1) rfl)) (ty := .int) (by decide) rfl rfl d15_46 (pc' := 49) rfl (fun T17 h17 X17 e17 W17 => ?_)
  have E17_0 := E16_0.wr W17
  have F17_1 := F16_1.other W17 (Or.inr (slot_ne (Or.inl (hw _ (List.mem_of_getElem? (i := 127) rfl))) (Or.inl (hw _ (List.mem_of_getElem? (i := 129) rfl))) (by decide) (t := (.object "java/lang/String")) (t' := .int) (by decide) (by decide)))
  have F17_2 := F16_2.same W17
  have F17_3 := F16_3.other W17 (Or.inr (slot_ne (Or.inl (hw _ (List.mem_of_getElem? (i := 15) rfl))) (Or.inl (hw _ (List.mem_of_getElem? (i := 129) rfl))) (by decide) (t := (.object "com/example/topsail/topsail/UnmatchableValueException")) (t' := .int) (by decide) (by decide)))
  have K17 : Keep h0 h17 [o] := K16.wr W17 (Or.inl (List.mem_singleton.mpr rfl))
  have N17 := Fr.snoc X17 N16 g0
  refine ow_aloadN C X17 d15_49 rfl rfl (pc' := 50) rfl ?_
  refine ow_aloadN C X17 d15_50 rfl rfl (pc' := 51) rfl ?_
  refine ow_putF C X17 e17 (hw _ (List.mem_of_getElem? (i := 14) rfl)) F17_3 E17_0 (Or.inl (hw _ (List.mem_of_getElem? (i := 15) rfl))) (hw _ (List.mem_of_getElem? (i := 1) rfl)) (ty := (.object "com/example/topsail/topsail/UnmatchableValueException")) (by decide) rfl rfl d15_51 (pc' := 54) rfl (fun T18 h18 X18 e18 W18 => ?_)
  have E18_0 := E17_0.wr W18
  have F18_1 := F17_1.other W18 (Or.inr (slot_ne (Or.inl (hw _ (List.mem_of_getElem? (i := 127) rfl))) (Or.inl (hw _ (List.mem_of_getElem? (i := 15) rfl))) (by decide) (t := (.object "java/lang/String")) (t' := (.object "com/example/topsail/topsail/UnmatchableValueException")) (by decide) (by decide)))
  have F18_2 := F17_2.other W18 (Or.inr (slot_ne (Or.inl (hw _ (List.mem_of_getElem? (i := 129) rfl))) (Or.inl (hw _ (List.mem_of_getElem? (i := 15) rfl))) (by decide) (t := .int) (t' := (.object "com/example/topsail/topsail/UnmatchableValueException")) (by decide) (by decide)))
  have F18_3 := F17_3.same W18
  have K18 : Keep h0 h18 [o] := K17.wr W18 (Or.inl (List.mem_singleton.mpr rfl))
  have N18 := Fr.snoc X18 N17 g0
  refine ow_retV C X18 d15_54 (Nat.le_of_ble_eq_true rfl) (Nat.le_of_ble_eq_true rfl) ?_
  rw [e18]
  exact ⟨rfl, N18, K18, E18_0, F18_3, _, _, rfl, F18_1, F18_2⟩
set_option maxRecDepth 65536 in
set_option maxHeartbeats 40000000 in
theorem rm_offB (l : Launch) (Z : State) (a0 : Array Value) (hw : ∀ d ∈ tables_1, d.before a0 Z = true) (o s1 x : Addr) (z : Int32) (h0 : Heap) (n0 : Nat) (g0 : n0 ≤ o) (E0 : Exa Z h0 o "com/example/topsail/topsail/FirstRefusal") (s2 : Addr) (z2 : Int32) (F1 : Fld Z h0 o "com/example/topsail/topsail/FirstRefusal" "id" "Ljava/lang/String;" (.ref s2)) (F2 : Fld Z h0 o "com/example/topsail/topsail/FirstRefusal" "position" "I" (.int z2)) (F3 : Fld Z h0 o "com/example/topsail/topsail/FirstRefusal" "reason" "Lcom/example/topsail/topsail/UnmatchableValueException;" (.ref x)) (ck : Int32) (hck : ¬ ck = 0) (SC : Sta Z h0 "java/lang/String" "COMPACT_STRINGS" "Z" (.int ck)) (S1 : OwStr Z h0 s1) (S2 : OwStr Z h0 s2) :
    OwCon l (⟨"com/example/topsail/topsail/FirstRefusal", "offer", "(Ljava/lang/String;ILcom/example/topsail/topsail/UnmatchableValueException;)V"⟩ : MethodName) prog_2_method_3_code 5 none ({ frames := 4, cells := 0, slots := 0, locals := 63 } : Room) Z #[(.ref o), (.ref s1), (.int z), (.ref x)] h0 (fun v h L => v = none ∧ Fr n0 L ∧ Keep h0 h [o] ∧ Exa Z h o "com/example/topsail/topsail/FirstRefusal" ∧ Fld Z h o "com/example/topsail/topsail/FirstRefusal" "reason" "Lcom/example/topsail/topsail/UnmatchableValueException;" (.ref x) ∧ ∃ (sn : Addr) (zn : Int32), (sn = s1 ∨ sn = s2) ∧ Fld Z h o "com/example/topsail/topsail/FirstRefusal" "id" "Ljava/lang/String;" (.ref sn) ∧ Fld Z h o "com/example/topsail/topsail/FirstRefusal" "position" "I" (.int zn)) := by
  refine OwCon.of pn_15 (Ls := #[.val (.ref o), .val (.ref s1), .val (.int z), .val (.ref x), .unset]) (fun m => by first | (simp [entryFrame, mkF, argsToLocals, Value.category]; done) | rfl) ?_
  intro p e s m below meth c s₁ C X0 e0
  refine ow_aloadN C X0 d15_0 rfl rfl (pc' := 1) rfl ?_
  refine ow_callV C X0 e0 (hw _ (List.mem_of_getElem? (i := 125) rfl)) (hw _ (List.mem_of_getElem? (i := 10) rfl)) (hw _ (List.mem_of_getElem? (i := 12) rfl)) rfl (hw _ (List.mem_of_getElem? (i := 11) rfl)) (hw _ (List.mem_of_getElem? (i := 2) rfl)) (hw _ (List.mem_of_getElem? (i := 13) rfl)) (by decide) E0 (rm_fndR l Z a0 hw x o h0 F3) pd_0 rfl (argsL := []) (rest := []) rfl rfl d15_1 (Nat.le_of_ble_eq_true rfl) (Nat.le_of_ble_eq_true rfl) (Nat.le_of_ble_eq_true rfl) (Nat.le_of_ble_eq_true rfl) (pc' := 4) rfl (fun T19 v19 L19 X19 Q19 => ?_)
  obtain ⟨rfl, rfl, Hc19⟩ := Q19
  rw [List.append_nil] at X19
  show OwF p e below _ T19 (mkF m 4 #[.val (.ref o), .val (.ref s1), .val (.int z), .val (.ref x), .unset] [(.int (1 : Int32))])
  refine ow_if_eq C X19 d15_4 (pcT := 18) (pc' := 7) (by decide) (by decide) rfl (fun bq => absurd bq (by decide)) (fun _ => ?_)
  refine ow_aloadN C X19 d15_7 rfl rfl (pc' := 8) rfl ?_
  refine ow_aloadN C X19 d15_8 rfl rfl (pc' := 9) rfl ?_
  refine ow_getF C X19 Hc19 (hw _ (List.mem_of_getElem? (i := 126) rfl)) F1 d15_9 (pc' := 12) rfl (fun T20 X20 e20 => ?_)
  refine ow_callV C X20 e20 (hw _ (List.mem_of_getElem? (i := 130) rfl)) (hw _ (List.mem_of_getElem? (i := 131) rfl)) (hw _ (List.mem_of_getElem? (i := 133) rfl)) rfl (hw _ (List.mem_of_getElem? (i := 132) rfl)) (hw _ (List.mem_of_getElem? (i := 20) rfl)) (hw _ (List.mem_of_getElem? (i := 134) rfl)) (by decide) S1.exa (rm_cmp l Z a0 hw s1 s2 h0 ck hck SC S1 S2) pd_7 rfl (argsL := [(.ref s2)]) (rest := []) rfl rfl d15_12 (Nat.le_of_ble_eq_true rfl) (Nat.le_of_ble_eq_true rfl) (Nat.le_of_ble_eq_true rfl) (Nat.le_of_ble_eq_true rfl) (pc' := 15) rfl (fun T21 v21 L21 X21 Q21 => ?_)
  obtain ⟨r21, rfl, rfl, Hc21⟩ := Q21
  rw [List.append_nil] at X21
  show OwF p e below _ T21 (mkF m 15 #[.val (.ref o), .val (.ref s1), .val (.int z), .val (.ref x), .unset] [(.int r21)])
  refine ow_goto C X21 d15_15 (pcT := 19) (by decide) (by decide) ?_
  refine ow_istore C X21 d15_19 (Ls' := #[.val (.ref o), .val (.ref s1), .val (.int z), .val (.ref x), .val (.int r21)]) rfl (pc' := 21) rfl ?_
  refine ow_iload C X21 d15_21 rfl (pc' := 23) rfl ?_
  refine ow_if_lt C X21 d15_23 (pcT := 39) (pc' := 26) (by decide) (by decide) rfl (fun b23 => ?_) (fun b23 => ?_)
  · refine ow_aloadN C X21 d15_39 rfl rfl (pc' := 40) rfl ?_
    refine ow_aloadN C X21 d15_40 rfl rfl (pc' := 41) rfl ?_
    refine ow_putF C X21 Hc21 (hw _ (List.mem_of_getElem? (i := 126) rfl)) F1 E0 (Or.inl (hw _ (List.mem_of_getElem? (i := 127) rfl))) (hw _ (List.mem_of_getElem? (i := 1) rfl)) (ty := (.object "java/lang/String")) (by decide) rfl rfl d15_41 (pc' := 44) rfl (fun T22 h22 X22 e22 W22 => ?_)
    have E22_0 := E0.wr W22
    have F22_1 := F1.same W22
    have F22_2 := F2.other W22 (Or.inr (slot_ne (Or.inl (hw _ (List.mem_of_getElem? (i := 129) rfl))) (Or.inl (hw _ (List.mem_of_getElem? (i := 127) rfl))) (by decide) (t := .int) (t' := (.object "java/lang/String")) (by decide) (by decide)))
    have F22_3 := F3.other W22 (Or.inr (slot_ne (Or.inl (hw _ (List.mem_of_getElem? (i := 15) rfl))) (Or.inl (hw _ (List.mem_of_getElem? (i := 127) rfl))) (by decide) (t := (.object "com/example/topsail/topsail/UnmatchableValueException")) (t' := (.object "java/lang/String")) (by decide) (by decide)))
    have K22 : Keep h0 h22 [o] := (Keep.refl h0 [o]).wr W22 (Or.inl (List.mem_singleton.mpr rfl))
    have N22 := Fr.snoc X22 (Fr.nil n0) g0
    refine ow_aloadN C X22 d15_44 rfl rfl (pc' := 45) rfl ?_
    refine ow_iloadN C X22 d15_45 rfl (pc' := 46) rfl ?_
    refine ow_putF C X22 e22 (hw _ (List.mem_of_getElem? (i := 128) rfl)) F22_2 E22_0 (Or.inl (hw _ (List.mem_of_getElem? (i := 129) rfl))) (hw _ (List.mem_of_getElem? (i := 1) rfl)) (ty := .int) (by decide) rfl rfl d15_46 (pc' := 49) rfl (fun T23 h23 X23 e23 W23 => ?_)
    have E23_0 := E22_0.wr W23
    have F23_1 := F22_1.other W23 (Or.inr (slot_ne (Or.inl (hw _ (List.mem_of_getElem? (i := 127) rfl))) (Or.inl (hw _ (List.mem_of_getElem? (i := 129) rfl))) (by decide) (t := (.object "java/lang/String")) (t' := .int) (by decide) (by decide)))
    have F23_2 := F22_2.same W23
    have F23_3 := F22_3.other W23 (Or.inr (slot_ne (Or.inl (hw _ (List.mem_of_getElem? (i := 15) rfl))) (Or.inl (hw _ (List.mem_of_getElem? (i := 129) rfl))) (by decide) (t := (.object "com/example/topsail/topsail/UnmatchableValueException")) (t' := .int) (by decide) (by decide)))
    have K23 : Keep h0 h23 [o] := K22.wr W23 (Or.inl (List.mem_singleton.mpr rfl))
    have N23 := Fr.snoc X23 N22 g0
    refine ow_aloadN C X23 d15_49 rfl rfl (pc' := 50) rfl ?_
    refine ow_aloadN C X23 d15_50 rfl rfl (pc' := 51) rfl ?_
    refine ow_putF C X23 e23 (hw _ (List.mem_of_getElem? (i := 14) rfl)) F23_3 E23_0 (Or.inl (hw _ (List.mem_of_getElem? (i := 15) rfl))) (hw _ (List.mem_of_getElem? (i := 1) rfl)) (ty := (.object "com/example/topsail/topsail/UnmatchableValueException")) (by decide) rfl rfl d15_51 (pc' := 54) rfl (fun T24 h24 X24 e24 W24 => ?_)
    have E24_0 := E23_0.wr W24
    have F24_1 := F23_1.other W24 (Or.inr (slot_ne (Or.inl (hw _ (List.mem_of_getElem? (i := 127) rfl))) (Or.inl (hw _ (List.mem_of_getElem? (i := 15) rfl))) (by decide) (t := (.object "java/lang/String")) (t' := (.object "com/example/topsail/topsail/UnmatchableValueException")) (by decide) (by decide)))
    have F24_2 := F23_2.other W24 (Or.inr (slot_ne (Or.inl (hw _ (List.mem_of_getElem? (i := 129) rfl))) (Or.inl (hw _ (List.mem_of_getElem? (i := 15) rfl))) (by decide) (t := .int) (t' := (.object "com/example/topsail/topsail/UnmatchableValueException")) (by decide) (by decide)))
    have F24_3 := F23_3.same W24
    have K24 : Keep h0 h24 [o] := K23.wr W24 (Or.inl (List.mem_singleton.mpr rfl))
    have N24 := Fr.snoc X24 N23 g0
    refine ow_retV C X24 d15_54 (Nat.le_of_ble_eq_true rfl) (Nat.le_of_ble_eq_true rfl) ?_
    rw [e24]
    exact ⟨rfl, N24, K24, E24_0, F24_3, _, _, Or.inl rfl, F24_1, F24_2⟩
  · refine ow_iload C X21 d15_26 rfl (pc' := 28) rfl ?_
    refine ow_if_ne C X21 d15_28 (pcT := 54) (pc' := 31) (by decide) (by decide) rfl (fun b28 => ?_) (fun b28 => ?_)
    · refine ow_retV C X21 d15_54 (Nat.le_of_ble_eq_true rfl) (Nat.le_of_ble_eq_true rfl) ?_
      rw [Hc21]
      exact ⟨rfl, (Fr.nil n0), Keep.refl _ _, E0, F3, _, _, Or.inr rfl, F1, F2⟩
    · refine ow_iloadN C X21 d15_31 rfl (pc' := 32) rfl ?_
      refine ow_aloadN C X21 d15_32 rfl rfl (pc' := 33) rfl ?_
      refine ow_getF C X21 Hc21 (hw _ (List.mem_of_getElem? (i := 128) rfl)) F2 d15_33 (pc' := 36) rfl (fun T25 X25 e25 => ?_)
      refine ow_icmp_ge C X25 d15_36 (pcT := 54) (pc' := 39) (by decide) (by decide) rfl (fun b36 => ?_) (fun b36 => ?_)
      · refine ow_retV C X25 d15_54 (Nat.le_of_ble_eq_true rfl) (Nat.le_of_ble_eq_true rfl) ?_
        rw [e25]
        exact ⟨rfl, (Fr.nil n0), Keep.refl _ _, E0, F3, _, _, Or.inr rfl, F1, F2⟩
      · refine ow_aloadN C X25 d15_39 rfl rfl (pc' := 40) rfl ?_
        refine ow_aloadN C X25 d15_40 rfl rfl (pc' := 41) rfl ?_
        refine ow_putF C X25 e25 (hw _ (List.mem_of_getElem? (i := 126) rfl)) F1 E0 (Or.inl (hw _ (List.mem_of_getElem? (i := 127) rfl))) (hw _ (List.mem_of_getElem? (i := 1) rfl)) (ty := (.object "java/lang/String")) (by decide) rfl rfl d15_41 (pc' := 44) rfl (fun T26 h26 X26 e26 W26 => ?_)
        have E26_0 := E0.wr W26
        have F26_1 := F1.same W26
        have F26_2 := F2.other W26 (Or.inr (slot_ne (Or.inl (hw _ (List.mem_of_getElem? (i := 129) rfl))) (Or.inl (hw _ (List.mem_of_getElem? (i := 127) rfl))) (by decide) (t := .int) (t' := (.object "java/lang/String")) (by decide) (by decide)))
        have F26_3 := F3.other W26 (Or.inr (slot_ne (Or.inl (hw _ (List.mem_of_getElem? (i := 15) rfl))) (Or.inl (hw _ (List.mem_of_getElem? (i := 127) rfl))) (by decide) (t := (.object "com/example/topsail/topsail/UnmatchableValueException")) (t' := (.object "java/lang/String")) (by decide) (by decide)))
        have K26 : Keep h0 h26 [o] := (Keep.refl h0 [o]).wr W26 (Or.inl (List.mem_singleton.mpr rfl))
        have N26 := Fr.snoc X26 (Fr.nil n0) g0
        refine ow_aloadN C X26 d15_44 rfl rfl (pc' := 45) rfl ?_
        refine ow_iloadN C X26 d15_45 rfl (pc' := 46) rfl ?_
        refine ow_putF C X26 e26 (hw _ (List.mem_of_getElem? (i := 128) rfl)) F26_2 E26_0 (Or.inl (hw _ (List.mem_of_getElem? (i := 129) rfl))) (hw _ (List.mem_of_getElem? (i := 1) rfl)) (ty := .int) (by decide) rfl rfl d15_46 (pc' := 49) rfl (fun T27 h27 X27 e27 W27 => ?_)
        have E27_0 := E26_0.wr W27
        have F27_1 := F26_1.other W27 (Or.inr (slot_ne (Or.inl (hw _ (List.mem_of_getElem? (i := 127) rfl))) (Or.inl (hw _ (List.mem_of_getElem? (i := 129) rfl))) (by decide) (t := (.object "java/lang/String")) (t' := .int) (by decide) (by decide)))
        have F27_2 := F26_2.same W27
        have F27_3 := F26_3.other W27 (Or.inr (slot_ne (Or.inl (hw _ (List.mem_of_getElem? (i := 15) rfl))) (Or.inl (hw _ (List.mem_of_getElem? (i := 129) rfl))) (by decide) (t := (.object "com/example/topsail/topsail/UnmatchableValueException")) (t' := .int) (by decide) (by decide)))
        have K27 : Keep h0 h27 [o] := K26.wr W27 (Or.inl (List.mem_singleton.mpr rfl))
        have N27 := Fr.snoc X27 N26 g0
        refine ow_aloadN C X27 d15_49 rfl rfl (pc' := 50) rfl ?_
        refine ow_aloadN C X27 d15_50 rfl rfl (pc' := 51) rfl ?_
        refine ow_putF C X27 e27 (hw _ (List.mem_of_getElem? (i := 14) rfl)) F27_3 E27_0 (Or.inl (hw _ (List.mem_of_getElem? (i := 15) rfl))) (hw _ (List.mem_of_getElem? (i := 1) rfl)) (ty := (.object "com/example/topsail/topsail/UnmatchableValueException")) (by decide) rfl rfl d15_51 (pc' := 54) rfl (fun T28 h28 X28 e28 W28 => ?_)
        have E28_0 := E27_0.wr W28
        have F28_1 := F27_1.other W28 (Or.inr (slot_ne (Or.inl (hw _ (List.mem_of_getElem? (i := 127) rfl))) (Or.inl (hw _ (List.mem_of_getElem? (i := 15) rfl))) (by decide) (t := (.object "java/lang/String")) (t' := (.object "com/example/topsail/topsail/UnmatchableValueException")) (by decide) (by decide)))
        have F28_2 := F27_2.other W28 (Or.inr (slot_ne (Or.inl (hw _ (List.mem_of_getElem? (i := 129) rfl))) (Or.inl (hw _ (List.mem_of_getElem? (i := 15) rfl))) (by decide) (t := .int) (t' := (.object "com/example/topsail/topsail/UnmatchableValueException")) (by decide) (by decide)))
        have F28_3 := F27_3.same W28
        have K28 : Keep h0 h28 [o] := K27.wr W28 (Or.inl (List.mem_singleton.mpr rfl))
        have N28 := Fr.snoc X28 N27 g0
        refine ow_retV C X28 d15_54 (Nat.le_of_ble_eq_true rfl) (Nat.le_of_ble_eq_true rfl) ?_
        rw [e28]
        exact ⟨rfl, N28, K28, E28_0, F28_3, _, _, Or.inl rfl, F28_1, F28_2⟩
theorem d12_0 : decode jdk_43_method_3_code 0 = .ok (.iload_n 0, 1) := by decide +kernel
theorem d12_1 : decode jdk_43_method_3_code 1 = .ok (.sipush 255, 3) := by decide +kernel
theorem d12_4 : decode jdk_43_method_3_code 4 = .ok (.if_icmp .gt 7, 3) := by decide +kernel
theorem d12_7 : decode jdk_43_method_3_code 7 = .ok (.iconst 1, 1) := by decide +kernel
theorem d12_8 : decode jdk_43_method_3_code 8 = .ok (.goto 4, 3) := by decide +kernel
theorem d12_11 : decode jdk_43_method_3_code 11 = .ok (.iconst 0, 1) := by decide +kernel
theorem d12_12 : decode jdk_43_method_3_code 12 = .ok (.ireturn, 1) := by decide +kernel
theorem pn_12 : plainFor (⟨"java/lang/StringLatin1", "canEncode", "(C)Z"⟩ : MethodName) = true := by first | exact plainFor_of_name (by first | (simp [plainName, overriddenIn]; done) | decide +kernel) | decide +kernel
theorem pd_9 : parseMethodDescriptor "(C)Z" = some ⟨[.char], (some .boolean)⟩ := by decide +kernel
set_option maxRecDepth 65536 in
set_option maxHeartbeats 40000000 in
theorem rm_can (l : Launch) (Z : State) (a0 : Array Value) (hw : ∀ d ∈ tables_1, d.before a0 Z = true) (z : Int32) (hz : ¬ (255 : Int32) < z) (h0 : Heap) :
    OwCon l (⟨"java/lang/StringLatin1", "canEncode", "(C)Z"⟩ : MethodName) jdk_43_method_3_code 1 (some .boolean) ({ frames := 0, cells := 0, slots := 0, locals := 0 } : Room) Z #[(.int z)] h0 (OwP (some (.int 1)) h0) := by
  refine OwCon.of pn_12 (Ls := #[.val (.int z)]) (fun m => by first | (simp [entryFrame, mkF, argsToLocals, Value.category]; done) | rfl) ?_
  intro p e s m below meth c s₁ C X0 e0
  refine ow_iloadN C X0 d12_0 rfl (pc' := 1) rfl ?_
  refine ow_sipush (255 : Int32) C X0 d12_1 (by decide) (pc' := 4) rfl ?_
  refine ow_icmp_gt C X0 d12_4 (pcT := 11) (pc' := 7) (by decide) (by decide) rfl (fun bq => absurd bq hz) (fun _ => ?_)
  refine ow_iconst (1 : Int32) C X0 d12_7 (by decide) (pc' := 8) rfl ?_
  refine ow_goto C X0 d12_8 (pcT := 12) (by decide) (by decide) ?_
  exact ow_retZ C X0 d12_12 (Nat.le_of_ble_eq_true rfl) (Nat.le_of_ble_eq_true rfl) (Or.inr rfl) ⟨rfl, rfl, e0⟩
theorem d13_0 : decode jdk_43_method_46_code 0 = .ok (.iconst 1, 1) := by decide +kernel
theorem d13_1 : decode jdk_43_method_46_code 1 = .ok (.newarray .byte, 2) := by decide +kernel
theorem d13_3 : decode jdk_43_method_46_code 3 = .ok (.dup, 1) := by decide +kernel
theorem d13_4 : decode jdk_43_method_46_code 4 = .ok (.iconst 0, 1) := by decide +kernel
theorem d13_5 : decode jdk_43_method_46_code 5 = .ok (.iload_n 0, 1) := by decide +kernel
theorem d13_6 : decode jdk_43_method_46_code 6 = .ok (.i2b, 1) := by decide +kernel
theorem d13_7 : decode jdk_43_method_46_code 7 = .ok (.bastore, 1) := by decide +kernel
theorem d13_8 : decode jdk_43_method_46_code 8 = .ok (.areturn, 1) := by decide +kernel
theorem pn_13 : plainFor (⟨"java/lang/StringLatin1", "toBytes", "(C)[B"⟩ : MethodName) = true := by first | exact plainFor_of_name (by first | (simp [plainName, overriddenIn]; done) | decide +kernel) | decide +kernel
theorem pd_10 : parseMethodDescriptor "(C)[B" = some ⟨[.char], (some (.array .byte))⟩ := by decide +kernel
set_option maxRecDepth 65536 in
set_option maxHeartbeats 40000000 in
theorem rm_tob (l : Launch) (Z : State) (a0 : Array Value) (hw : ∀ d ∈ tables_1, d.before a0 Z = true) (z : Int32) (h0 : Heap) (n0 : Nat) (Z0 : n0 ≤ h0.size) :
    OwCon l (⟨"java/lang/StringLatin1", "toBytes", "(C)[B"⟩ : MethodName) jdk_43_method_46_code 1 (some (.array .byte)) ({ frames := 0, cells := 1, slots := 1, locals := 0 } : Room) Z #[(.int z)] h0 (fun v h L => ∃ (b : Addr) (f : Nat → Int32), v = some (.ref b) ∧ h0.size ≤ b ∧ Fr n0 L ∧ Keep h0 h [] ∧ OwA Z h b .byte 1 (fun j => .int (f j))) := by
  refine OwCon.of pn_13 (Ls := #[.val (.int z)]) (fun m => by first | (simp [entryFrame, mkF, argsToLocals, Value.category]; done) | rfl) ?_
  intro p e s m below meth c s₁ C X0 e0
  refine ow_iconst (1 : Int32) C X0 d13_0 (by decide) (pc' := 1) rfl ?_
  refine ow_newarr C X0 e0 (hw _ (List.mem_of_getElem? (i := 22) rfl)) d13_1 (N := 1) (cap := 1) (by decide) (by decide) (Nat.le_of_ble_eq_true rfl) (Nat.le_of_ble_eq_true rfl) (Nat.le_of_ble_eq_true rfl) (Nat.le_of_ble_eq_true rfl) (pc' := 3) rfl (fun T29 h29 a29 g29 X29 e29 Ex29 A29 => ?_)
  have A29 : OwA Z h29 a29 .byte 1 (fun _ => .int 0) := A29
  have Gh29 : h0.size ≤ a29 := Nat.le_trans (Keep.refl h0 []).1 (Nat.le_of_eq g29.symm)
  have K29 : Keep h0 h29 [] := (Keep.refl h0 []).ext Ex29
  have Ge29 : n0 ≤ a29 := Nat.le_trans Z0 (Nat.le_of_eq g29.symm)
  have Z29 : n0 ≤ h29.size := Nat.le_trans Z0 Ex29.1
  refine ow_dup C X29 d13_3 rfl (pc' := 4) rfl ?_
  refine ow_iconst (0 : Int32) C X29 d13_4 (by decide) (pc' := 5) rfl ?_
  refine ow_iloadN C X29 d13_5 rfl (pc' := 6) rfl ?_
  refine ow_i2b C X29 d13_6 (pc' := 7) rfl ?_
  refine ow_bastore (i := 0) C X29 e29 A29 (by decide) (by decide) (Nat.le_of_ble_eq_true rfl) d13_7 (pc' := 8) rfl (fun T30 h30 X30 e30 W30 => ?_)
  have A30 : OwA Z h30 a29 .byte 1 (fun j => .int (if j = 0 then (nar .byte z.toInt8.toInt32) else (0 : Int32))) := (A29.set W30).congr (fun j _ => by (try dsimp only); split <;> rfl)
  have K30 : Keep h0 h30 [] := K29.wr W30 (Or.inr Gh29)
  have N30 := Fr.snoc X30 (Fr.nil n0) Ge29
  have Z30 : n0 ≤ h30.size := by rw [W30.size]; exact Z29
  refine ow_retA C X30 d13_8 (Nat.le_of_ble_eq_true rfl) (Nat.le_of_ble_eq_true rfl) rfl rfl ?_
  rw [e30]
  exact ⟨_, fun j => (if j = 0 then (nar .byte z.toInt8.toInt32) else (0 : Int32)), rfl, Gh29, N30, K30, A30⟩
theorem d14_0 : decode jdk_42_method_151_code 0 = .ok (.aload_n 0, 1) := by decide +kernel
theorem d14_1 : decode jdk_42_method_151_code 1 = .ok (.invokespecial 1, 3) := by decide +kernel
theorem d14_4 : decode jdk_42_method_151_code 4 = .ok (.aload_n 0, 1) := by decide +kernel
theorem d14_5 : decode jdk_42_method_151_code 5 = .ok (.aload_n 1, 1) := by decide +kernel
theorem d14_6 : decode jdk_42_method_151_code 6 = .ok (.putfield 9, 3) := by decide +kernel
theorem d14_9 : decode jdk_42_method_151_code 9 = .ok (.aload_n 0, 1) := by decide +kernel
theorem d14_10 : decode jdk_42_method_151_code 10 = .ok (.iload_n 2, 1) := by decide +kernel
theorem d14_11 : decode jdk_42_method_151_code 11 = .ok (.putfield 15, 3) := by decide +kernel
theorem d14_14 : decode jdk_42_method_151_code 14 = .ok (.return_, 1) := by decide +kernel
theorem pn_14 : plainFor (⟨"java/lang/String", "<init>", "([BB)V"⟩ : MethodName) = true := by first | exact plainFor_of_name (by first | (simp [plainName, overriddenIn]; done) | decide +kernel) | decide +kernel
theorem pd_11 : parseMethodDescriptor "([BB)V" = some ⟨[(.array .byte), .byte], none⟩ := by decide +kernel
set_option maxRecDepth 65536 in
set_option maxHeartbeats 40000000 in
theorem rm_sin (l : Launch) (Z : State) (a0 : Array Value) (hw : ∀ d ∈ tables_1, d.before a0 Z = true) (o b : Addr) (h0 : Heap) (n0 : Nat) (g0 : n0 ≤ o) (E0 : Exa Z h0 o "java/lang/String") (F1 : Fld Z h0 o "java/lang/String" "value" "[B" .null) (F2 : Fld Z h0 o "java/lang/String" "coder" "B" (.int 0)) :
    OwCon l (⟨"java/lang/String", "<init>", "([BB)V"⟩ : MethodName) jdk_42_method_151_code 3 none ({ frames := 1, cells := 0, slots := 0, locals := 12 } : Room) Z #[(.ref o), (.ref b), (.int (0 : Int32))] h0 (fun v h L => v = none ∧ Fr n0 L ∧ Keep h0 h [o] ∧ Exa Z h o "java/lang/String" ∧ Fld Z h o "java/lang/String" "value" "[B" (.ref b) ∧ Fld Z h o "java/lang/String" "coder" "B" (.int 0)) := by
  refine OwCon.of pn_14 (Ls := #[.val (.ref o), .val (.ref b), .val (.int (0 : Int32))]) (fun m => by first | (simp [entryFrame, mkF, argsToLocals, Value.category]; done) | rfl) ?_
  intro p e s m below meth c s₁ C X0 e0
  refine ow_aloadN C X0 d14_0 rfl rfl (pc' := 1) rfl ?_
  refine ow_initO C X0 e0 (hw _ (List.mem_of_getElem? (i := 117) rfl)) (hw _ (List.mem_of_getElem? (i := 7) rfl)) (hw _ (List.mem_of_getElem? (i := 8) rfl)) rfl d14_1 (Nat.le_of_ble_eq_true rfl) (Nat.le_of_ble_eq_true rfl) (pc' := 4) rfl (fun T31 X31 e31 => ?_)
  refine ow_aloadN C X31 d14_4 rfl rfl (pc' := 5) rfl ?_
  refine ow_aloadN C X31 d14_5 rfl rfl (pc' := 6) rfl ?_
  refine ow_putF C X31 e31 (hw _ (List.mem_of_getElem? (i := 118) rfl)) F1 E0 (Or.inr ⟨(hw _ (List.mem_of_getElem? (i := 23) rfl)), rfl, rfl⟩) (hw _ (List.mem_of_getElem? (i := 21) rfl)) (ty := (.array .byte)) (by decide) rfl rfl d14_6 (pc' := 9) rfl (fun T32 h32 X32 e32 W32 => ?_)
  have E32_0 := E0.wr W32
  have F32_1 := F1.same W32
  have F32_2 := F2.other W32 (Or.inr (slot_ne (Or.inr (hw _ (List.mem_of_getElem? (i := 24) rfl))) (Or.inr (hw _ (List.mem_of_getElem? (i := 23) rfl))) (by decide) (t := .byte) (t' := (.array .byte)) (by decide) (by decide)))
  have K32 : Keep h0 h32 [o] := (Keep.refl h0 [o]).wr W32 (Or.inl (List.mem_singleton.mpr rfl))
  have N32 := Fr.snoc X32 (Fr.nil n0) g0
  refine ow_aloadN C X32 d14_9 rfl rfl (pc' := 10) rfl ?_
  refine ow_iloadN C X32 d14_10 rfl (pc' := 11) rfl ?_
  refine ow_putF C X32 e32 (hw _ (List.mem_of_getElem? (i := 119) rfl)) F32_2 E32_0 (Or.inr ⟨(hw _ (List.mem_of_getElem? (i := 24) rfl)), rfl, rfl⟩) (hw _ (List.mem_of_getElem? (i := 21) rfl)) (ty := .byte) (by decide) rfl rfl d14_11 (pc' := 14) rfl (fun T33 h33 X33 e33 W33 => ?_)
  have E33_0 := E32_0.wr W33
  have F33_1 := F32_1.other W33 (Or.inr (slot_ne (Or.inr (hw _ (List.mem_of_getElem? (i := 23) rfl))) (Or.inr (hw _ (List.mem_of_getElem? (i := 24) rfl))) (by decide) (t := (.array .byte)) (t' := .byte) (by decide) (by decide)))
  have F33_2 := F32_2.same W33
  have K33 : Keep h0 h33 [o] := K32.wr W33 (Or.inl (List.mem_singleton.mpr rfl))
  have N33 := Fr.snoc X33 N32 g0
  refine ow_retV C X33 d14_14 (Nat.le_of_ble_eq_true rfl) (Nat.le_of_ble_eq_true rfl) ?_
  rw [e33]
  exact ⟨rfl, N33, K33, E33_0, F33_1, F33_2⟩
theorem d11_0 : decode jdk_42_method_139_code 0 = .ok (.getstatic 38, 3) := by decide +kernel
theorem d11_3 : decode jdk_42_method_139_code 3 = .ok (.ifCond .eq 23, 3) := by decide +kernel
theorem d11_6 : decode jdk_42_method_139_code 6 = .ok (.iload_n 0, 1) := by decide +kernel
theorem d11_7 : decode jdk_42_method_139_code 7 = .ok (.invokestatic 1015, 3) := by decide +kernel
theorem d11_10 : decode jdk_42_method_139_code 10 = .ok (.ifCond .eq 16, 3) := by decide +kernel
theorem d11_13 : decode jdk_42_method_139_code 13 = .ok (.new 10, 3) := by decide +kernel
theorem d11_16 : decode jdk_42_method_139_code 16 = .ok (.dup, 1) := by decide +kernel
theorem d11_17 : decode jdk_42_method_139_code 17 = .ok (.iload_n 0, 1) := by decide +kernel
theorem d11_18 : decode jdk_42_method_139_code 18 = .ok (.invokestatic 1018, 3) := by decide +kernel
theorem d11_21 : decode jdk_42_method_139_code 21 = .ok (.iconst 0, 1) := by decide +kernel
theorem d11_22 : decode jdk_42_method_139_code 22 = .ok (.invokespecial 209, 3) := by decide +kernel
theorem d11_25 : decode jdk_42_method_139_code 25 = .ok (.areturn, 1) := by decide +kernel
theorem d11_26 : decode jdk_42_method_139_code 26 = .ok (.new 10, 3) := by decide +kernel
theorem d11_29 : decode jdk_42_method_139_code 29 = .ok (.dup, 1) := by decide +kernel
theorem d11_30 : decode jdk_42_method_139_code 30 = .ok (.iload_n 0, 1) := by decide +kernel
theorem d11_31 : decode jdk_42_method_139_code 31 = .ok (.invokestatic 1021, 3) := by decide +kernel
theorem d11_34 : decode jdk_42_method_139_code 34 = .ok (.iconst 1, 1) := by decide +kernel
theorem d11_35 : decode jdk_42_method_139_code 35 = .ok (.invokespecial 209, 3) := by decide +kernel
theorem d11_38 : decode jdk_42_method_139_code 38 = .ok (.areturn, 1) := by decide +kernel
theorem pn_11 : plainFor (⟨"java/lang/String", "valueOf", "(C)Ljava/lang/String;"⟩ : MethodName) = true := by first | exact plainFor_of_name (by first | (simp [plainName, overriddenIn]; done) | decide +kernel) | decide +kernel
theorem pd_12 : parseMethodDescriptor "(C)Ljava/lang/String;" = some ⟨[.char], (some (.object "java/lang/String"))⟩ := by decide +kernel
set_option maxRecDepth 65536 in
set_option maxHeartbeats 40000000 in
theorem rm_vof (l : Launch) (Z : State) (a0 : Array Value) (hw : ∀ d ∈ tables_1, d.before a0 Z = true) (z : Int32) (hz : ¬ (255 : Int32) < z) (h0 : Heap) (n0 : Nat) (Z0 : n0 ≤ h0.size) (O0 : Old Z n0 h0) (ck : Int32) (hck : ¬ ck = 0) (SC : Sta Z Z.heap "java/lang/String" "COMPACT_STRINGS" "Z" (.int ck)) :
    OwCon l (⟨"java/lang/String", "valueOf", "(C)Ljava/lang/String;"⟩ : MethodName) jdk_42_method_139_code 1 (some (.object "java/lang/String")) ({ frames := 2, cells := 2, slots := 5, locals := 27 } : Room) Z #[(.int z)] h0 (fun v h L => ∃ a : Addr, v = some (.ref a) ∧ Fr n0 L ∧ Keep h0 h [] ∧ OwStr Z h a) := by
  refine OwCon.of pn_11 (Ls := #[.val (.int z)]) (fun m => by first | (simp [entryFrame, mkF, argsToLocals, Value.category]; done) | rfl) ?_
  intro p e s m below meth c s₁ C X0 e0
  refine ow_getS C X0 e0 (hw _ (List.mem_of_getElem? (i := 104) rfl)) (SC.ext O0.2) d11_0 (pc' := 3) rfl (fun T34 X34 e34 => ?_)
  refine ow_if_eq C X34 d11_3 (pcT := 26) (pc' := 6) (by decide) (by decide) rfl (fun bq => absurd bq hck) (fun _ => ?_)
  refine ow_iloadN C X34 d11_6 rfl (pc' := 7) rfl ?_
  refine ow_callS C X34 e34 (hw _ (List.mem_of_getElem? (i := 105) rfl)) (hw _ (List.mem_of_getElem? (i := 106) rfl)) (hw _ (List.mem_of_getElem? (i := 107) rfl)) (hw _ (List.mem_of_getElem? (i := 108) rfl)) (by decide) (rm_can l Z a0 hw z hz h0) pd_9 rfl (argsL := [(.int z)]) (rest := []) rfl rfl d11_7 (Nat.le_of_ble_eq_true rfl) (Nat.le_of_ble_eq_true rfl) (Nat.le_of_ble_eq_true rfl) (Nat.le_of_ble_eq_true rfl) (pc' := 10) rfl (fun T35 v35 L35 X35 Q35 => ?_)
  obtain ⟨rfl, rfl, Hc35⟩ := Q35
  rw [List.append_nil] at X35
  show OwF p e below _ T35 (mkF m 10 #[.val (.int z)] [(.int (1 : Int32))])
  refine ow_if_eq C X35 d11_10 (pcT := 26) (pc' := 13) (by decide) (by decide) rfl (fun bq => absurd bq (by decide)) (fun _ => ?_)
  refine ow_new C X35 Hc35 (hw _ (List.mem_of_getElem? (i := 109) rfl)) (hw _ (List.mem_of_getElem? (i := 21) rfl)) (hw _ (List.mem_of_getElem? (i := 20) rfl)) d11_13 (Nat.le_of_ble_eq_true rfl) (Nat.le_of_ble_eq_true rfl) (pc' := 16) rfl (fun T36 h36 a36 g36 X36 e36 Ex36 A36 D36 => ?_)
  have Gh36 : h0.size ≤ a36 := Nat.le_trans (Keep.refl h0 []).1 (Nat.le_of_eq g36.symm)
  have K36 : Keep h0 h36 [] := (Keep.refl h0 []).ext Ex36
  have Ge36 : n0 ≤ a36 := Nat.le_trans Z0 (Nat.le_of_eq g36.symm)
  have Z36 : n0 ≤ h36.size := Nat.le_trans Z0 Ex36.1
  have Fn36_0 : Fld Z h36 a36 "java/lang/String" "value" "[B" .null := D36 (Or.inr (hw _ (List.mem_of_getElem? (i := 23) rfl))) (ty := (.array .byte)) (by decide)
  have Fn36_1 : Fld Z h36 a36 "java/lang/String" "coder" "B" (.int (0 : Int32)) := D36 (Or.inr (hw _ (List.mem_of_getElem? (i := 24) rfl))) (ty := .byte) (by decide)
  refine ow_dup C X36 d11_16 rfl (pc' := 17) rfl ?_
  refine ow_iloadN C X36 d11_17 rfl (pc' := 18) rfl ?_
  refine ow_callS C X36 e36 (hw _ (List.mem_of_getElem? (i := 110) rfl)) (hw _ (List.mem_of_getElem? (i := 111) rfl)) (hw _ (List.mem_of_getElem? (i := 107) rfl)) (hw _ (List.mem_of_getElem? (i := 112) rfl)) (by decide) (rm_tob l Z a0 hw z h36 n0 Z36) pd_10 rfl (argsL := [(.int z)]) (rest := [(.ref a36), (.ref a36)]) rfl rfl d11_18 (Nat.le_of_ble_eq_true rfl) (Nat.le_of_ble_eq_true rfl) (Nat.le_of_ble_eq_true rfl) (Nat.le_of_ble_eq_true rfl) (pc' := 21) rfl (fun T37 v37 L37 X37 Q37 => ?_)
  obtain ⟨b37, f37, rfl, Gb37, N37, K37, A37⟩ := Q37
  have E37_0 := A36.keep K37
  have F37_1 := Fn36_0.keep K37 own_nil
  have F37_2 := Fn36_1.keep K37 own_nil
  have lq37_a36 : a36 < b37 := Nat.lt_of_lt_of_le A36.lt Gb37
  have Kc37 := K36.trans K37 (fun _ hx => nomatch hx)
  have Nn37 := Fr.app (Fr.nil n0) N37
  have Z37 : n0 ≤ T37.heap.size := Nat.le_trans Z36 K37.1
  show OwF p e below _ T37 (mkF m 21 #[.val (.int z)] [(.ref b37), (.ref a36), (.ref a36)])
  refine ow_iconst (0 : Int32) C X37 d11_21 (by decide) (pc' := 22) rfl ?_
  refine ow_callN C X37 rfl rfl (hw _ (List.mem_of_getElem? (i := 113) rfl)) (hw _ (List.mem_of_getElem? (i := 114) rfl)) (hw _ (List.mem_of_getElem? (i := 20) rfl)) (hw _ (List.mem_of_getElem? (i := 116) rfl)) (by decide) (rm_sin l Z a0 hw a36 b37 T37.heap n0 Ge36 E37_0 F37_1 F37_2) pd_11 rfl (argsL := [(.ref b37), (.int (0 : Int32))]) (rest := [(.ref a36)]) rfl rfl d11_22 (Nat.le_of_ble_eq_true rfl) (Nat.le_of_ble_eq_true rfl) (Nat.le_of_ble_eq_true rfl) (Nat.le_of_ble_eq_true rfl) (pc' := 25) rfl (fun T38 v38 L38 X38 Q38 => ?_)
  obtain ⟨rfl, N38, K38, E38, F38_v, F38_c⟩ := Q38
  have A38 := A37.keep K38 (own_nm (Ne.symm (Nat.ne_of_lt lq37_a36)))
  have S38 : OwStr Z T38.heap a36 := ⟨_, _, E38, F38_v, F38_c, A38⟩
  have Kc38 := Kc37.trans K38 (own_kt Gh36)
  have Nn38 := Fr.app Nn37 N38
  show OwF p e below _ T38 (mkF m 25 #[.val (.int z)] [(.ref a36)])
  refine ow_retA C X38 d11_25 (Nat.le_of_ble_eq_true rfl) (Nat.le_of_ble_eq_true rfl) rfl rfl ?_
  exact ⟨_, rfl, Nn38, Kc38, S38⟩
theorem d10_0 : decode jdk_31_method_11_code 0 = .ok (.aload_n 0, 1) := by decide +kernel
theorem d10_1 : decode jdk_31_method_11_code 1 = .ok (.ifnonnull 12, 3) := by decide +kernel
theorem d10_4 : decode jdk_31_method_11_code 4 = .ok (.new 84, 3) := by decide +kernel
theorem d10_7 : decode jdk_31_method_11_code 7 = .ok (.dup, 1) := by decide +kernel
theorem d10_8 : decode jdk_31_method_11_code 8 = .ok (.aload_n 1, 1) := by decide +kernel
theorem d10_9 : decode jdk_31_method_11_code 9 = .ok (.invokespecial 87, 3) := by decide +kernel
theorem d10_12 : decode jdk_31_method_11_code 12 = .ok (.athrow, 1) := by decide +kernel
theorem d10_13 : decode jdk_31_method_11_code 13 = .ok (.aload_n 0, 1) := by decide +kernel
theorem d10_14 : decode jdk_31_method_11_code 14 = .ok (.areturn, 1) := by decide +kernel
theorem pn_10 : plainFor (⟨"java/util/Objects", "requireNonNull", "(Ljava/lang/Object;Ljava/lang/String;)Ljava/lang/Object;"⟩ : MethodName) = true := by first | exact plainFor_of_name (by first | (simp [plainName, overriddenIn]; done) | decide +kernel) | decide +kernel
theorem pd_13 : parseMethodDescriptor "(Ljava/lang/Object;Ljava/lang/String;)Ljava/lang/Object;" = some ⟨[(.object "java/lang/Object"), (.object "java/lang/String")], (some (.object "java/lang/Object"))⟩ := by decide +kernel
set_option maxRecDepth 65536 in
set_option maxHeartbeats 40000000 in
theorem rm_rnn (l : Launch) (Z : State) (a0 : Array Value) (hw : ∀ d ∈ tables_1, d.before a0 Z = true) (x y : Addr) (h0 : Heap) :
    OwCon l (⟨"java/util/Objects", "requireNonNull", "(Ljava/lang/Object;Ljava/lang/String;)Ljava/lang/Object;"⟩ : MethodName) jdk_31_method_11_code 2 (some (.object "java/lang/Object")) ({ frames := 0, cells := 0, slots := 0, locals := 0 } : Room) Z #[(.ref x), (.ref y)] h0 (OwP (some (.ref x)) h0) := by
  refine OwCon.of pn_10 (Ls := #[.val (.ref x), .val (.ref y)]) (fun m => by first | (simp [entryFrame, mkF, argsToLocals, Value.category]; done) | rfl) ?_
  intro p e s m below meth c s₁ C X0 e0
  refine ow_aloadN C X0 d10_0 rfl rfl (pc' := 1) rfl ?_
  refine ow_ifnonnull_r C X0 d10_1 (pcT := 13) (by decide) (by decide) ?_
  refine ow_aloadN C X0 d10_13 rfl rfl (pc' := 14) rfl ?_
  exact ow_retA C X0 d10_14 (Nat.le_of_ble_eq_true rfl) (Nat.le_of_ble_eq_true rfl) rfl rfl ⟨rfl, rfl, e0⟩
theorem own_six {Z : State} {a0 : Array Value} (hw : ∀ d ∈ tables_1, d.before a0 Z = true) : ∀ nd ∈ Jvm.Free.Exc.sixNames, Jvm.RoadKit.slotOf Z "java/lang/Throwable" nd.1 nd.2 ≠ Jvm.RoadKit.slotOf Z "com/example/topsail/topsail/TopsailException" "kind" "Lcom/example/topsail/topsail/TopsailException$Kind;" := by
  intro nd hnd
  simp only [Jvm.Free.Exc.sixNames, List.mem_cons, List.not_mem_nil, or_false] at hnd
  rcases hnd with rfl | rfl | rfl | rfl | rfl | rfl
  all_goals first
    | exact slot_ne (Or.inl (hw _ (List.mem_of_getElem? (i := 57) rfl))) (Or.inr (hw _ (List.mem_of_getElem? (i := 100) rfl))) (by decide) (t := (.object "java/lang/Throwable")) (t' := (.object "com/example/topsail/topsail/TopsailException$Kind")) (by decide) (by decide)
    | exact slot_ne (Or.inl (hw _ (List.mem_of_getElem? (i := 60) rfl))) (Or.inr (hw _ (List.mem_of_getElem? (i := 100) rfl))) (by decide) (t := (.array (.object "java/lang/StackTraceElement"))) (t' := (.object "com/example/topsail/topsail/TopsailException$Kind")) (by decide) (by decide)
    | exact slot_ne (Or.inl (hw _ (List.mem_of_getElem? (i := 63) rfl))) (Or.inr (hw _ (List.mem_of_getElem? (i := 100) rfl))) (by decide) (t := (.object "java/util/List")) (t' := (.object "com/example/topsail/topsail/TopsailException$Kind")) (by decide) (by decide)
    | exact slot_ne (Or.inl (hw _ (List.mem_of_getElem? (i := 87) rfl))) (Or.inr (hw _ (List.mem_of_getElem? (i := 100) rfl))) (by decide) (t := (.object "java/lang/String")) (t' := (.object "com/example/topsail/topsail/TopsailException$Kind")) (by decide) (by decide)
    | exact slot_ne (Or.inl (hw _ (List.mem_of_getElem? (i := 88) rfl))) (Or.inr (hw _ (List.mem_of_getElem? (i := 100) rfl))) (by decide) (t := (.object "java/lang/Object")) (t' := (.object "com/example/topsail/topsail/TopsailException$Kind")) (by decide) (by decide)
    | exact slot_ne (Or.inl (hw _ (List.mem_of_getElem? (i := 89) rfl))) (Or.inr (hw _ (List.mem_of_getElem? (i := 100) rfl))) (by decide) (t := .int) (t' := (.object "com/example/topsail/topsail/TopsailException$Kind")) (by decide) (by decide)
theorem d8_0 : decode jdk_78_method_3_code 0 = .ok (.aload_n 0, 1) := by decide +kernel
theorem d8_1 : decode jdk_78_method_3_code 1 = .ok (.invokespecial 1, 3) := by decide +kernel
theorem d8_4 : decode jdk_78_method_3_code 4 = .ok (.aload_n 0, 1) := by decide +kernel
theorem d8_5 : decode jdk_78_method_3_code 5 = .ok (.aload_n 0, 1) := by decide +kernel
theorem d8_6 : decode jdk_78_method_3_code 6 = .ok (.putfield 7, 3) := by decide +kernel
theorem d8_9 : decode jdk_78_method_3_code 9 = .ok (.aload_n 0, 1) := by decide +kernel
theorem d8_10 : decode jdk_78_method_3_code 10 = .ok (.getstatic 13, 3) := by decide +kernel
theorem d8_13 : decode jdk_78_method_3_code 13 = .ok (.putfield 17, 3) := by decide +kernel
theorem d8_16 : decode jdk_78_method_3_code 16 = .ok (.aload_n 0, 1) := by decide +kernel
theorem d8_17 : decode jdk_78_method_3_code 17 = .ok (.getstatic 20, 3) := by decide +kernel
theorem d8_20 : decode jdk_78_method_3_code 20 = .ok (.putfield 24, 3) := by decide +kernel
theorem d8_23 : decode jdk_78_method_3_code 23 = .ok (.aload_n 0, 1) := by decide +kernel
theorem d8_24 : decode jdk_78_method_3_code 24 = .ok (.invokevirtual 27, 3) := by decide +kernel
theorem d8_27 : decode jdk_78_method_3_code 27 = .ok (.pop, 1) := by decide +kernel
theorem d8_28 : decode jdk_78_method_3_code 28 = .ok (.aload_n 0, 1) := by decide +kernel
theorem d8_29 : decode jdk_78_method_3_code 29 = .ok (.aload_n 1, 1) := by decide +kernel
theorem d8_30 : decode jdk_78_method_3_code 30 = .ok (.putfield 31, 3) := by decide +kernel
theorem d8_33 : decode jdk_78_method_3_code 33 = .ok (.aload_n 0, 1) := by decide +kernel
theorem d8_34 : decode jdk_78_method_3_code 34 = .ok (.aload_n 2, 1) := by decide +kernel
theorem d8_35 : decode jdk_78_method_3_code 35 = .ok (.putfield 7, 3) := by decide +kernel
theorem d8_38 : decode jdk_78_method_3_code 38 = .ok (.return_, 1) := by decide +kernel
theorem pn_8 : plainFor (⟨"java/lang/Throwable", "<init>", "(Ljava/lang/String;Ljava/lang/Throwable;)V"⟩ : MethodName) = true := by first | exact plainFor_of_name (by first | (simp [plainName, overriddenIn]; done) | decide +kernel) | decide +kernel
theorem pd_14 : parseMethodDescriptor "(Ljava/lang/String;Ljava/lang/Throwable;)V" = some ⟨[(.object "java/lang/String"), (.object "java/lang/Throwable")], none⟩ := by decide +kernel
set_option maxRecDepth 65536 in
set_option maxHeartbeats 40000000 in
theorem rm_thr {l : Launch} (hl : l.stackTraces = true) (Z : State) (a0 : Array Value) (hw : ∀ d ∈ tables_1, d.before a0 Z = true) (a msg : Addr) (h0 : Heap) (n0 : Nat) (g0 : n0 ≤ a) (u1 u2 : RefV) (S1 : Sta Z h0 "java/lang/Throwable" "UNASSIGNED_STACK" "[Ljava/lang/StackTraceElement;" u1.v) (S2 : Sta Z h0 "java/lang/Throwable" "SUPPRESSED_SENTINEL" "Ljava/util/List;" u2.v) (H0 : ThS Z h0) (E0 : Exa Z h0 a "com/example/topsail/topsail/UnmatchableValueException") (U0 : Unt h0 a) (F1 : Fld Z h0 a "java/lang/Throwable" "cause" "Ljava/lang/Throwable;" .null) (F2 : Fld Z h0 a "java/lang/Throwable" "stackTrace" "[Ljava/lang/StackTraceElement;" .null) (F3 : Fld Z h0 a "java/lang/Throwable" "suppressedExceptions" "Ljava/util/List;" .null) (F4 : Fld Z h0 a "java/lang/Throwable" "detailMessage" "Ljava/lang/String;" .null) (F5 : Fld Z h0 a "java/lang/Throwable" "backtrace" "Ljava/lang/Object;" .null) (F6 : Fld Z h0 a "com/example/topsail/topsail/TopsailException" "kind" "Lcom/example/topsail/topsail/TopsailException$Kind;" .null) :
    OwConW true l (⟨"java/lang/Throwable", "<init>", "(Ljava/lang/String;Ljava/lang/Throwable;)V"⟩ : MethodName) jdk_78_method_3_code 3 none ({ frames := 3, cells := 1, slots := 2752, locals := 42 } : Room) Z #[(.ref a), (.ref msg), .null] h0 (fun v h L => v = none ∧ Fr n0 L ∧ Keep h0 h [a] ∧ Exa Z h a "com/example/topsail/topsail/UnmatchableValueException" ∧ Fld Z h a "com/example/topsail/topsail/TopsailException" "kind" "Lcom/example/topsail/topsail/TopsailException$Kind;" .null) := by
  refine OwConW.of pn_8 (Ls := #[.val (.ref a), .val (.ref msg), .val .null]) (fun m => by first | (simp [entryFrame, mkF, argsToLocals, Value.category]; done) | rfl) ?_
  intro p e s m below meth c s₁ hTK C X0 e0 eS hS
  refine ow_aloadN C X0 d8_0 rfl rfl (pc' := 1) rfl ?_
  refine ow_initO C X0 e0 (hw _ (List.mem_of_getElem? (i := 55) rfl)) (hw _ (List.mem_of_getElem? (i := 7) rfl)) (hw _ (List.mem_of_getElem? (i := 8) rfl)) rfl d8_1 (Nat.le_of_ble_eq_true rfl) (Nat.le_of_ble_eq_true rfl) (pc' := 4) rfl (fun T39 X39 e39 => ?_)
  refine ow_aloadN C X39 d8_4 rfl rfl (pc' := 5) rfl ?_
  refine ow_aloadN C X39 d8_5 rfl rfl (pc' := 6) rfl ?_
  refine ow_putF C X39 e39 (hw _ (List.mem_of_getElem? (i := 56) rfl)) F1 E0 (Or.inl (hw _ (List.mem_of_getElem? (i := 57) rfl))) (hw _ (List.mem_of_getElem? (i := 17) rfl)) (ty := (.object "java/lang/Throwable")) (by decide) rfl rfl d8_6 (pc' := 9) rfl (fun T40 h40 X40 e40 W40 => ?_)
  have E40_0 := E0.wr W40
  have F40_1 := F1.same W40
  have F40_2 := F2.other W40 (Or.inr (slot_ne (Or.inl (hw _ (List.mem_of_getElem? (i := 60) rfl))) (Or.inl (hw _ (List.mem_of_getElem? (i := 57) rfl))) (by decide) (t := (.array (.object "java/lang/StackTraceElement"))) (t' := (.object "java/lang/Throwable")) (by decide) (by decide)))
  have F40_3 := F3.other W40 (Or.inr (slot_ne (Or.inl (hw _ (List.mem_of_getElem? (i := 63) rfl))) (Or.inl (hw _ (List.mem_of_getElem? (i := 57) rfl))) (by decide) (t := (.object "java/util/List")) (t' := (.object "java/lang/Throwable")) (by decide) (by decide)))
  have F40_4 := F4.other W40 (Or.inr (slot_ne (Or.inl (hw _ (List.mem_of_getElem? (i := 87) rfl))) (Or.inl (hw _ (List.mem_of_getElem? (i := 57) rfl))) (by decide) (t := (.object "java/lang/String")) (t' := (.object "java/lang/Throwable")) (by decide) (by decide)))
  have F40_5 := F5.other W40 (Or.inr (slot_ne (Or.inl (hw _ (List.mem_of_getElem? (i := 88) rfl))) (Or.inl (hw _ (List.mem_of_getElem? (i := 57) rfl))) (by decide) (t := (.object "java/lang/Object")) (t' := (.object "java/lang/Throwable")) (by decide) (by decide)))
  have F40_6 := F6.other W40 (Or.inr (slot_ne (Or.inr (hw _ (List.mem_of_getElem? (i := 100) rfl))) (Or.inl (hw _ (List.mem_of_getElem? (i := 57) rfl))) (by decide) (t := (.object "com/example/topsail/topsail/TopsailException$Kind")) (t' := (.object "java/lang/Throwable")) (by decide) (by decide)))
  have K40 : Keep h0 h40 [a] := (Keep.refl h0 [a]).wr W40 (Or.inl (List.mem_singleton.mpr rfl))
  have N40 := Fr.snoc X40 (Fr.nil n0) g0
  have Y40 := Nat.le_trans (Nat.le_of_eq (congrArg Array.size eS)) (Nat.le_of_eq W40.size.symm)
  have Sw40_UNASSIGNED_STACK := Sta.wr W40 S1
  have Sw40_SUPPRESSED_SENTINEL := Sta.wr W40 S2
  have Uw40 := Unt.wr W40 U0
  refine ow_aloadN C X40 d8_9 rfl rfl (pc' := 10) rfl ?_
  refine ow_getS C X40 e40 (hw _ (List.mem_of_getElem? (i := 58) rfl)) Sw40_UNASSIGNED_STACK d8_10 (pc' := 13) rfl (fun T41 X41 e41 => ?_)
  refine ow_putF C X41 e41 (hw _ (List.mem_of_getElem? (i := 59) rfl)) F40_2 E40_0 (Or.inl (hw _ (List.mem_of_getElem? (i := 60) rfl))) (hw _ (List.mem_of_getElem? (i := 17) rfl)) (ty := (.array (.object "java/lang/StackTraceElement"))) (by decide) (narrow_refV _ u1) (fits_refV_array _ u1) d8_13 (pc' := 16) rfl (fun T42 h42 X42 e42 W42 => ?_)
  have E42_0 := E40_0.wr W42
  have F42_1 := F40_1.other W42 (Or.inr (slot_ne (Or.inl (hw _ (List.mem_of_getElem? (i := 57) rfl))) (Or.inl (hw _ (List.mem_of_getElem? (i := 60) rfl))) (by decide) (t := (.object "java/lang/Throwable")) (t' := (.array (.object "java/lang/StackTraceElement"))) (by decide) (by decide)))
  have F42_2 := F40_2.same W42
  have F42_3 := F40_3.other W42 (Or.inr (slot_ne (Or.inl (hw _ (List.mem_of_getElem? (i := 63) rfl))) (Or.inl (hw _ (List.mem_of_getElem? (i := 60) rfl))) (by decide) (t := (.object "java/util/List")) (t' := (.array (.object "java/lang/StackTraceElement"))) (by decide) (by decide)))
  have F42_4 := F40_4.other W42 (Or.inr (slot_ne (Or.inl (hw _ (List.mem_of_getElem? (i := 87) rfl))) (Or.inl (hw _ (List.mem_of_getElem? (i := 60) rfl))) (by decide) (t := (.object "java/lang/String")) (t' := (.array (.object "java/lang/StackTraceElement"))) (by decide) (by decide)))
  have F42_5 := F40_5.other W42 (Or.inr (slot_ne (Or.inl (hw _ (List.mem_of_getElem? (i := 88) rfl))) (Or.inl (hw _ (List.mem_of_getElem? (i := 60) rfl))) (by decide) (t := (.object "java/lang/Object")) (t' := (.array (.object "java/lang/StackTraceElement"))) (by decide) (by decide)))
  have F42_6 := F40_6.other W42 (Or.inr (slot_ne (Or.inr (hw _ (List.mem_of_getElem? (i := 100) rfl))) (Or.inl (hw _ (List.mem_of_getElem? (i := 60) rfl))) (by decide) (t := (.object "com/example/topsail/topsail/TopsailException$Kind")) (t' := (.array (.object "java/lang/StackTraceElement"))) (by decide) (by decide)))
  have K42 : Keep h0 h42 [a] := K40.wr W42 (Or.inl (List.mem_singleton.mpr rfl))
  have N42 := Fr.snoc X42 N40 g0
  have Y42 := Nat.le_trans Y40 (Nat.le_of_eq W42.size.symm)
  have Sw42_UNASSIGNED_STACK := Sta.wr W42 Sw40_UNASSIGNED_STACK
  have Sw42_SUPPRESSED_SENTINEL := Sta.wr W42 Sw40_SUPPRESSED_SENTINEL
  have Uw42 := Unt.wr W42 Uw40
  refine ow_aloadN C X42 d8_16 rfl rfl (pc' := 17) rfl ?_
  refine ow_getS C X42 e42 (hw _ (List.mem_of_getElem? (i := 61) rfl)) Sw42_SUPPRESSED_SENTINEL d8_17 (pc' := 20) rfl (fun T43 X43 e43 => ?_)
  refine ow_putF C X43 e43 (hw _ (List.mem_of_getElem? (i := 62) rfl)) F42_3 E42_0 (Or.inl (hw _ (List.mem_of_getElem? (i := 63) rfl))) (hw _ (List.mem_of_getElem? (i := 17) rfl)) (ty := (.object "java/util/List")) (by decide) (narrow_refV _ u2) (fits_refV_object _ u2) d8_20 (pc' := 23) rfl (fun T44 h44 X44 e44 W44 => ?_)
  have E44_0 := E42_0.wr W44
  have F44_1 := F42_1.other W44 (Or.inr (slot_ne (Or.inl (hw _ (List.mem_of_getElem? (i := 57) rfl))) (Or.inl (hw _ (List.mem_of_getElem? (i := 63) rfl))) (by decide) (t := (.object "java/lang/Throwable")) (t' := (.object "java/util/List")) (by decide) (by decide)))
  have F44_2 := F42_2.other W44 (Or.inr (slot_ne (Or.inl (hw _ (List.mem_of_getElem? (i := 60) rfl))) (Or.inl (hw _ (List.mem_of_getElem? (i := 63) rfl))) (by decide) (t := (.array (.object "java/lang/StackTraceElement"))) (t' := (.object "java/util/List")) (by decide) (by decide)))
  have F44_3 := F42_3.same W44
  have F44_4 := F42_4.other W44 (Or.inr (slot_ne (Or.inl (hw _ (List.mem_of_getElem? (i := 87) rfl))) (Or.inl (hw _ (List.mem_of_getElem? (i := 63) rfl))) (by decide) (t := (.object "java/lang/String")) (t' := (.object "java/util/List")) (by decide) (by decide)))
  have F44_5 := F42_5.other W44 (Or.inr (slot_ne (Or.inl (hw _ (List.mem_of_getElem? (i := 88) rfl))) (Or.inl (hw _ (List.mem_of_getElem? (i := 63) rfl))) (by decide) (t := (.object "java/lang/Object")) (t' := (.object "java/util/List")) (by decide) (by decide)))
  have F44_6 := F42_6.other W44 (Or.inr (slot_ne (Or.inr (hw _ (List.mem_of_getElem? (i := 100) rfl))) (Or.inl (hw _ (List.mem_of_getElem? (i := 63) rfl))) (by decide) (t := (.object "com/example/topsail/topsail/TopsailException$Kind")) (t' := (.object "java/util/List")) (by decide) (by decide)))
  have K44 : Keep h0 h44 [a] := K42.wr W44 (Or.inl (List.mem_singleton.mpr rfl))
  have N44 := Fr.snoc X44 N42 g0
  have Y44 := Nat.le_trans Y42 (Nat.le_of_eq W44.size.symm)
  have Sw44_UNASSIGNED_STACK := Sta.wr W44 Sw42_UNASSIGNED_STACK
  have Sw44_SUPPRESSED_SENTINEL := Sta.wr W44 Sw42_SUPPRESSED_SENTINEL
  have Uw44 := Unt.wr W44 Uw42
  refine ow_aloadN C X44 d8_23 rfl rfl (pc' := 24) rfl ?_
  refine ow_fill (u0 := u1) hw C X44 e44 eS hl H0 (hTK rfl).1 (hTK rfl).2 E44_0 Uw44 F44_5 F44_2 Sw44_UNASSIGNED_STACK (fun y hy => by simp only [List.nil_append, List.mem_append, List.mem_singleton] at hy; rcases hy with (rfl | rfl) | rfl; exact own_six1 C.2.2.2.2.2.2.2 F44_1 (List.mem_of_getElem? (i := 0) rfl); exact own_six1 C.2.2.2.2.2.2.2 F44_2 (List.mem_of_getElem? (i := 1) rfl); exact own_six1 C.2.2.2.2.2.2.2 F44_3 (List.mem_of_getElem? (i := 2) rfl)) rfl d8_24 (Nat.le_of_ble_eq_true rfl) (Nat.le_of_ble_eq_true rfl) (Nat.le_of_ble_eq_true rfl) (Nat.le_of_ble_eq_true rfl) (pc' := 27) rfl (fun T45 h45 X45 e45 Kp45 => ?_)
  have K45 := keep_of_kp Kp45
  have E45 := Exa.kp Kp45 E0
  have Fk45 := Fld.kp Kp45 F6 (Or.inr (own_six hw))
  have N45 := Fr.six (Z := Z) N44 g0
  have Y45 := Nat.le_trans (Nat.le_of_eq (congrArg Array.size eS)) K45.1
  obtain ⟨vc45, Fc45⟩ := fld_laid (O := "java/lang/Throwable") (n := "cause") (d := "Ljava/lang/Throwable;") E45 (Unt.known (Unt.kp Kp45 U0)) (hw _ (List.mem_of_getElem? (i := 17) rfl)) (Or.inl (hw _ (List.mem_of_getElem? (i := 57) rfl)))
  obtain ⟨vm45, Fm45⟩ := fld_laid (O := "java/lang/Throwable") (n := "detailMessage") (d := "Ljava/lang/String;") E45 (Unt.known (Unt.kp Kp45 U0)) (hw _ (List.mem_of_getElem? (i := 17) rfl)) (Or.inl (hw _ (List.mem_of_getElem? (i := 87) rfl)))
  refine ow_pop C X45 d8_27 rfl (pc' := 28) rfl ?_
  refine ow_aloadN C X45 d8_28 rfl rfl (pc' := 29) rfl ?_
  refine ow_aloadN C X45 d8_29 rfl rfl (pc' := 30) rfl ?_
  refine ow_putF C X45 e45 (hw _ (List.mem_of_getElem? (i := 91) rfl)) Fm45 E45 (Or.inl (hw _ (List.mem_of_getElem? (i := 87) rfl))) (hw _ (List.mem_of_getElem? (i := 17) rfl)) (ty := (.object "java/lang/String")) (by decide) rfl rfl d8_30 (pc' := 33) rfl (fun T46 h46 X46 e46 W46 => ?_)
  have E46_0 := E45.wr W46
  have F46_1 := Fk45.other W46 (Or.inr (slot_ne (Or.inr (hw _ (List.mem_of_getElem? (i := 100) rfl))) (Or.inl (hw _ (List.mem_of_getElem? (i := 87) rfl))) (by decide) (t := (.object "com/example/topsail/topsail/TopsailException$Kind")) (t' := (.object "java/lang/String")) (by decide) (by decide)))
  have F46_2 := Fc45.other W46 (Or.inr (slot_ne (Or.inl (hw _ (List.mem_of_getElem? (i := 57) rfl))) (Or.inl (hw _ (List.mem_of_getElem? (i := 87) rfl))) (by decide) (t := (.object "java/lang/Throwable")) (t' := (.object "java/lang/String")) (by decide) (by decide)))
  have F46_3 := Fm45.same W46
  have K46 : Keep h0 h46 [a] := K45.wr W46 (Or.inl (List.mem_singleton.mpr rfl))
  have N46 := Fr.snoc X46 N45 g0
  have Y46 := Nat.le_trans Y45 (Nat.le_of_eq W46.size.symm)
  refine ow_aloadN C X46 d8_33 rfl rfl (pc' := 34) rfl ?_
  refine ow_aloadN C X46 d8_34 rfl rfl (pc' := 35) rfl ?_
  refine ow_putF C X46 e46 (hw _ (List.mem_of_getElem? (i := 56) rfl)) F46_2 E46_0 (Or.inl (hw _ (List.mem_of_getElem? (i := 57) rfl))) (hw _ (List.mem_of_getElem? (i := 17) rfl)) (ty := (.object "java/lang/Throwable")) (by decide) rfl rfl d8_35 (pc' := 38) rfl (fun T47 h47 X47 e47 W47 => ?_)
  have E47_0 := E46_0.wr W47
  have F47_1 := F46_1.other W47 (Or.inr (slot_ne (Or.inr (hw _ (List.mem_of_getElem? (i := 100) rfl))) (Or.inl (hw _ (List.mem_of_getElem? (i := 57) rfl))) (by decide) (t := (.object "com/example/topsail/topsail/TopsailException$Kind")) (t' := (.object "java/lang/Throwable")) (by decide) (by decide)))
  have F47_2 := F46_2.same W47
  have F47_3 := F46_3.other W47 (Or.inr (slot_ne (Or.inl (hw _ (List.mem_of_getElem? (i := 87) rfl))) (Or.inl (hw _ (List.mem_of_getElem? (i := 57) rfl))) (by decide) (t := (.object "java/lang/String")) (t' := (.object "java/lang/Throwable")) (by decide) (by decide)))
  have K47 : Keep h0 h47 [a] := K46.wr W47 (Or.inl (List.mem_singleton.mpr rfl))
  have N47 := Fr.snoc X47 N46 g0
  have Y47 := Nat.le_trans Y46 (Nat.le_of_eq W47.size.symm)
  refine ow_retVW (s := s) (vm0 := s.vm) C hS X47 (Nat.le_trans Y47 (Nat.le_of_eq (congrArg Array.size e47.symm))) d8_38 (Nat.le_of_ble_eq_true rfl) (Nat.le_of_ble_eq_true rfl) ?_
  rw [e47]
  exact ⟨rfl, N47, K47, E47_0, F47_1⟩
theorem d7_0 : decode jdk_59_method_3_code 0 = .ok (.aload_n 0, 1) := by decide +kernel
theorem d7_1 : decode jdk_59_method_3_code 1 = .ok (.aload_n 1, 1) := by decide +kernel
theorem d7_2 : decode jdk_59_method_3_code 2 = .ok (.aload_n 2, 1) := by decide +kernel
theorem d7_3 : decode jdk_59_method_3_code 3 = .ok (.invokespecial 10, 3) := by decide +kernel
theorem d7_6 : decode jdk_59_method_3_code 6 = .ok (.return_, 1) := by decide +kernel
theorem pn_7 : plainFor (⟨"java/lang/Exception", "<init>", "(Ljava/lang/String;Ljava/lang/Throwable;)V"⟩ : MethodName) = true := by first | exact plainFor_of_name (by first | (simp [plainName, overriddenIn]; done) | decide +kernel) | decide +kernel
set_option maxRecDepth 65536 in
set_option maxHeartbeats 40000000 in
theorem rm_exc {l : Launch} (hl : l.stackTraces = true) (Z : State) (a0 : Array Value) (hw : ∀ d ∈ tables_1, d.before a0 Z = true) (a msg : Addr) (h0 : Heap) (n0 : Nat) (g0 : n0 ≤ a) (u1 u2 : RefV) (S1 : Sta Z h0 "java/lang/Throwable" "UNASSIGNED_STACK" "[Ljava/lang/StackTraceElement;" u1.v) (S2 : Sta Z h0 "java/lang/Throwable" "SUPPRESSED_SENTINEL" "Ljava/util/List;" u2.v) (H0 : ThS Z h0) (E0 : Exa Z h0 a "com/example/topsail/topsail/UnmatchableValueException") (U0 : Unt h0 a) (F1 : Fld Z h0 a "java/lang/Throwable" "cause" "Ljava/lang/Throwable;" .null) (F2 : Fld Z h0 a "java/lang/Throwable" "stackTrace" "[Ljava/lang/StackTraceElement;" .null) (F3 : Fld Z h0 a "java/lang/Throwable" "suppressedExceptions" "Ljava/util/List;" .null) (F4 : Fld Z h0 a "java/lang/Throwable" "detailMessage" "Ljava/lang/String;" .null) (F5 : Fld Z h0 a "java/lang/Throwable" "backtrace" "Ljava/lang/Object;" .null) (F6 : Fld Z h0 a "com/example/topsail/topsail/TopsailException" "kind" "Lcom/example/topsail/topsail/TopsailException$Kind;" .null) :
    OwConW true l (⟨"java/lang/Exception", "<init>", "(Ljava/lang/String;Ljava/lang/Throwable;)V"⟩ : MethodName) jdk_59_method_3_code 3 none ({ frames := 4, cells := 1, slots := 2752, locals := 56 } : Room) Z #[(.ref a), (.ref msg), .null] h0 (fun v h L => v = none ∧ Fr n0 L ∧ Keep h0 h [a] ∧ Exa Z h a "com/example/topsail/topsail/UnmatchableValueException" ∧ Fld Z h a "com/example/topsail/topsail/TopsailException" "kind" "Lcom/example/topsail/topsail/TopsailException$Kind;" .null) := by
  refine OwConW.of pn_7 (Ls := #[.val (.ref a), .val (.ref msg), .val .null]) (fun m => by first | (simp [entryFrame, mkF, argsToLocals, Value.category]; done) | rfl) ?_
  intro p e s m below meth c s₁ hTK C X0 e0 eS hS
  refine ow_aloadN C X0 d7_0 rfl rfl (pc' := 1) rfl ?_
  refine ow_aloadN C X0 d7_1 rfl rfl (pc' := 2) rfl ?_
  refine ow_aloadN C X0 d7_2 rfl rfl (pc' := 3) rfl ?_
  refine ow_callNW (s := s) (vm0 := s.vm) C hTK hS X0 e0 (Nat.le_of_eq (congrArg Array.size eS)) rfl (hw _ (List.mem_of_getElem? (i := 49) rfl)) (hw _ (List.mem_of_getElem? (i := 50) rfl)) (hw _ (List.mem_of_getElem? (i := 53) rfl)) (hw _ (List.mem_of_getElem? (i := 54) rfl)) (by decide) (rm_thr hl Z a0 hw a msg h0 n0 g0 u1 u2 S1 S2 H0 E0 U0 F1 F2 F3 F4 F5 F6) pd_14 rfl (argsL := [(.ref msg), .null]) (rest := []) rfl rfl d7_3 (Nat.le_of_ble_eq_true rfl) (Nat.le_of_ble_eq_true rfl) (Nat.le_of_ble_eq_true rfl) (Nat.le_of_ble_eq_true rfl) (pc' := 6) rfl (fun T48 v48 L48 C hTK hS X48 Q48 => ?_)
  obtain ⟨rfl, N48, K48, E48, Fk48⟩ := Q48
  have E48_0 := E0.keep K48
  have Kc48 := (Keep.refl h0 [a]).trans K48 (fun x hx => Or.inl hx)
  have Nn48 := Fr.app (Fr.nil n0) N48
  show OwF p e below _ T48 (mkF m 6 #[.val (.ref a), .val (.ref msg), .val .null] [])
  refine ow_retVW (s := s) (vm0 := T48.vm) C hS X48 (Nat.le_refl T48.heap.size) d7_6 (Nat.le_of_ble_eq_true rfl) (Nat.le_of_ble_eq_true rfl) ?_
  exact ⟨rfl, Nn48, Kc48, E48, Fk48⟩
theorem d6_0 : decode jdk_58_method_3_code 0 = .ok (.aload_n 0, 1) := by decide +kernel
theorem d6_1 : decode jdk_58_method_3_code 1 = .ok (.aload_n 1, 1) := by decide +kernel
theorem d6_2 : decode jdk_58_method_3_code 2 = .ok (.aload_n 2, 1) := by decide +kernel
theorem d6_3 : decode jdk_58_method_3_code 3 = .ok (.invokespecial 10, 3) := by decide +kernel
theorem d6_6 : decode jdk_58_method_3_code 6 = .ok (.return_, 1) := by decide +kernel
theorem pn_6 : plainFor (⟨"java/lang/RuntimeException", "<init>", "(Ljava/lang/String;Ljava/lang/Throwable;)V"⟩ : MethodName) = true := by first | exact plainFor_of_name (by first | (simp [plainName, overriddenIn]; done) | decide +kernel) | decide +kernel
set_option maxRecDepth 65536 in
set_option maxHeartbeats 40000000 in
theorem rm_rte {l : Launch} (hl : l.stackTraces = true) (Z : State) (a0 : Array Value) (hw : ∀ d ∈ tables_1, d.before a0 Z = true) (a msg : Addr) (h0 : Heap) (n0 : Nat) (g0 : n0 ≤ a) (u1 u2 : RefV) (S1 : Sta Z h0 "java/lang/Throwable" "UNASSIGNED_STACK" "[Ljava/lang/StackTraceElement;" u1.v) (S2 : Sta Z h0 "java/lang/Throwable" "SUPPRESSED_SENTINEL" "Ljava/util/List;" u2.v) (H0 : ThS Z h0) (E0 : Exa Z h0 a "com/example/topsail/topsail/UnmatchableValueException") (U0 : Unt h0 a) (F1 : Fld Z h0 a "java/lang/Throwable" "cause" "Ljava/lang/Throwable;" .null) (F2 : Fld Z h0 a "java/lang/Throwable" "stackTrace" "[Ljava/lang/StackTraceElement;" .null) (F3 : Fld Z h0 a "java/lang/Throwable" "suppressedExceptions" "Ljava/util/List;" .null) (F4 : Fld Z h0 a "java/lang/Throwable" "detailMessage" "Ljava/lang/String;" .null) (F5 : Fld Z h0 a "java/lang/Throwable" "backtrace" "Ljava/lang/Object;" .null) (F6 : Fld Z h0 a "com/example/topsail/topsail/TopsailException" "kind" "Lcom/example/topsail/topsail/TopsailException$Kind;" .null) :
    OwConW true l (⟨"java/lang/RuntimeException", "<init>", "(Ljava/lang/String;Ljava/lang/Throwable;)V"⟩ : MethodName) jdk_58_method_3_code 3 none ({ frames := 5, cells := 1, slots := 2752, locals := 70 } : Room) Z #[(.ref a), (.ref msg), .null] h0 (fun v h L => v = none ∧ Fr n0 L ∧ Keep h0 h [a] ∧ Exa Z h a "com/example/topsail/topsail/UnmatchableValueException" ∧ Fld Z h a "com/example/topsail/topsail/TopsailException" "kind" "Lcom/example/topsail/topsail/TopsailException$Kind;" .null) := by
  refine OwConW.of pn_6 (Ls := #[.val (.ref a), .val (.ref msg), .val .null]) (fun m => by first | (simp [entryFrame, mkF, argsToLocals, Value.category]; done) | rfl) ?_
  intro p e s m below meth c s₁ hTK C X0 e0 eS hS
  refine ow_aloadN C X0 d6_0 rfl rfl (pc' := 1) rfl ?_
  refine ow_aloadN C X0 d6_1 rfl rfl (pc' := 2) rfl ?_
  refine ow_aloadN C X0 d6_2 rfl rfl (pc' := 3) rfl ?_
  refine ow_callNW (s := s) (vm0 := s.vm) C hTK hS X0 e0 (Nat.le_of_eq (congrArg Array.size eS)) rfl (hw _ (List.mem_of_getElem? (i := 43) rfl)) (hw _ (List.mem_of_getElem? (i := 44) rfl)) (hw _ (List.mem_of_getElem? (i := 47) rfl)) (hw _ (List.mem_of_getElem? (i := 48) rfl)) (by decide) (rm_exc hl Z a0 hw a msg h0 n0 g0 u1 u2 S1 S2 H0 E0 U0 F1 F2 F3 F4 F5 F6) pd_14 rfl (argsL := [(.ref msg), .null]) (rest := []) rfl rfl d6_3 (Nat.le_of_ble_eq_true rfl) (Nat.le_of_ble_eq_true rfl) (Nat.le_of_ble_eq_true rfl) (Nat.le_of_ble_eq_true rfl) (pc' := 6) rfl (fun T49 v49 L49 C hTK hS X49 Q49 => ?_)
  obtain ⟨rfl, N49, K49, E49, Fk49⟩ := Q49
  have E49_0 := E0.keep K49
  have Kc49 := (Keep.refl h0 [a]).trans K49 (fun x hx => Or.inl hx)
  have Nn49 := Fr.app (Fr.nil n0) N49
  show OwF p e below _ T49 (mkF m 6 #[.val (.ref a), .val (.ref msg), .val .null] [])
  refine ow_retVW (s := s) (vm0 := T49.vm) C hS X49 (Nat.le_refl T49.heap.size) d6_6 (Nat.le_of_ble_eq_true rfl) (Nat.le_of_ble_eq_true rfl) ?_
  exact ⟨rfl, Nn49, Kc49, E49, Fk49⟩
theorem d5_0 : decode prog_14_method_2_code 0 = .ok (.aload_n 0, 1) := by decide +kernel
theorem d5_1 : decode prog_14_method_2_code 1 = .ok (.aload_n 2, 1) := by decide +kernel
theorem d5_2 : decode prog_14_method_2_code 2 = .ok (.aload_n 3, 1) := by decide +kernel
theorem d5_3 : decode prog_14_method_2_code 3 = .ok (.invokespecial 7, 3) := by decide +kernel
theorem d5_6 : decode prog_14_method_2_code 6 = .ok (.aload_n 0, 1) := by decide +kernel
theorem d5_7 : decode prog_14_method_2_code 7 = .ok (.aload_n 1, 1) := by decide +kernel
theorem d5_8 : decode prog_14_method_2_code 8 = .ok (.ldc 12, 2) := by decide +kernel
theorem d5_10 : decode prog_14_method_2_code 10 = .ok (.invokestatic 14, 3) := by decide +kernel
theorem d5_13 : decode prog_14_method_2_code 13 = .ok (.checkcast 20, 3) := by decide +kernel
theorem d5_16 : decode prog_14_method_2_code 16 = .ok (.putfield 22, 3) := by decide +kernel
theorem d5_19 : decode prog_14_method_2_code 19 = .ok (.return_, 1) := by decide +kernel
theorem pn_5 : plainFor (⟨"com/example/topsail/topsail/TopsailException", "<init>", "(Lcom/example/topsail/topsail/TopsailException$Kind;Ljava/lang/String;Ljava/lang/Throwable;)V"⟩ : MethodName) = true := by first | exact plainFor_of_name (by first | (simp [plainName, overriddenIn]; done) | decide +kernel) | decide +kernel
theorem pd_15 : parseMethodDescriptor "(Lcom/example/topsail/topsail/TopsailException$Kind;Ljava/lang/String;Ljava/lang/Throwable;)V" = some ⟨[(.object "com/example/topsail/topsail/TopsailException$Kind"), (.object "java/lang/String"), (.object "java/lang/Throwable")], none⟩ := by decide +kernel
set_option maxRecDepth 65536 in
set_option maxHeartbeats 40000000 in
theorem rm_tex {l : Launch} (hl : l.stackTraces = true) (Z : State) (a0 : Array Value) (hw : ∀ d ∈ tables_1, d.before a0 Z = true) (a kd msg : Addr) (h0 : Heap) (n0 : Nat) (g0 : n0 ≤ a) (u1 u2 : RefV) (S1 : Sta Z h0 "java/lang/Throwable" "UNASSIGNED_STACK" "[Ljava/lang/StackTraceElement;" u1.v) (S2 : Sta Z h0 "java/lang/Throwable" "SUPPRESSED_SENTINEL" "Ljava/util/List;" u2.v) (H0 : ThS Z h0) (E0 : Exa Z h0 a "com/example/topsail/topsail/UnmatchableValueException") (U0 : Unt h0 a) (F1 : Fld Z h0 a "java/lang/Throwable" "cause" "Ljava/lang/Throwable;" .null) (F2 : Fld Z h0 a "java/lang/Throwable" "stackTrace" "[Ljava/lang/StackTraceElement;" .null) (F3 : Fld Z h0 a "java/lang/Throwable" "suppressedExceptions" "Ljava/util/List;" .null) (F4 : Fld Z h0 a "java/lang/Throwable" "detailMessage" "Ljava/lang/String;" .null) (F5 : Fld Z h0 a "java/lang/Throwable" "backtrace" "Ljava/lang/Object;" .null) (F6 : Fld Z h0 a "com/example/topsail/topsail/TopsailException" "kind" "Lcom/example/topsail/topsail/TopsailException$Kind;" .null) (EK : Exa Z h0 kd "com/example/topsail/topsail/TopsailException$Kind") :
    OwConW true l (⟨"com/example/topsail/topsail/TopsailException", "<init>", "(Lcom/example/topsail/topsail/TopsailException$Kind;Ljava/lang/String;Ljava/lang/Throwable;)V"⟩ : MethodName) prog_14_method_2_code 4 none ({ frames := 6, cells := 3, slots := 2772, locals := 88 } : Room) Z #[(.ref a), (.ref kd), (.ref msg), .null] h0 (fun v h L => v = none ∧ Fr n0 L ∧ Keep h0 h [a] ∧ Exa Z h a "com/example/topsail/topsail/UnmatchableValueException") := by
  refine OwConW.of pn_5 (Ls := #[.val (.ref a), .val (.ref kd), .val (.ref msg), .val .null]) (fun m => by first | (simp [entryFrame, mkF, argsToLocals, Value.category]; done) | rfl) ?_
  intro p e s m below meth c s₁ hTK C X0 e0 eS hS
  refine ow_aloadN C X0 d5_0 rfl rfl (pc' := 1) rfl ?_
  refine ow_aloadN C X0 d5_1 rfl rfl (pc' := 2) rfl ?_
  refine ow_aloadN C X0 d5_2 rfl rfl (pc' := 3) rfl ?_
  refine ow_callNW (s := s) (vm0 := s.vm) C hTK hS X0 e0 (Nat.le_of_eq (congrArg Array.size eS)) rfl (hw _ (List.mem_of_getElem? (i := 38) rfl)) (hw _ (List.mem_of_getElem? (i := 39) rfl)) (hw _ (List.mem_of_getElem? (i := 41) rfl)) (hw _ (List.mem_of_getElem? (i := 42) rfl)) (by decide) (rm_rte hl Z a0 hw a msg h0 n0 g0 u1 u2 S1 S2 H0 E0 U0 F1 F2 F3 F4 F5 F6) pd_14 rfl (argsL := [(.ref msg), .null]) (rest := []) rfl rfl d5_3 (Nat.le_of_ble_eq_true rfl) (Nat.le_of_ble_eq_true rfl) (Nat.le_of_ble_eq_true rfl) (Nat.le_of_ble_eq_true rfl) (pc' := 6) rfl (fun T50 v50 L50 C hTK hS X50 Q50 => ?_)
  obtain ⟨rfl, N50, K50, E50, Fk50⟩ := Q50
  have E50_0 := E0.keep K50
  have E50_1 := EK.keep K50
  have Kc50 := (Keep.refl h0 [a]).trans K50 (fun x hx => Or.inl hx)
  have Nn50 := Fr.app (Fr.nil n0) N50
  show OwF p e below _ T50 (mkF m 6 #[.val (.ref a), .val (.ref kd), .val (.ref msg), .val .null] [])
  refine ow_aloadN C X50 d5_6 rfl rfl (pc' := 7) rfl ?_
  refine ow_aloadN C X50 d5_7 rfl rfl (pc' := 8) rfl ?_
  refine ow_ldcS (s := s) (vm0 := T50.vm) (n := 16) C hTK hS X50 rfl (Nat.le_refl T50.heap.size) (hw _ (List.mem_of_getElem? (i := 92) rfl)) (own_str hw) d5_8 (by decide) (Nat.le_of_ble_eq_true rfl) (Nat.le_of_ble_eq_true rfl) (Nat.le_of_ble_eq_true rfl) (pc' := 10) rfl (fun a51 T51 h51 k51 C hTK hS X51 e51 Ex51 Yk51 => ?_)
  have E51_0 := E50.ext Ex51
  have E51_1 := E50_1.ext Ex51
  have F51_2 := Fk50.ext Ex51
  have K51 : Keep h0 h51 [a] := Kc50.ext Ex51
  refine ow_callS C X51 e51 (hw _ (List.mem_of_getElem? (i := 93) rfl)) (hw _ (List.mem_of_getElem? (i := 94) rfl)) (hw _ (List.mem_of_getElem? (i := 95) rfl)) (hw _ (List.mem_of_getElem? (i := 96) rfl)) (by decide) (rm_rnn l Z a0 hw kd a51 h51) pd_13 rfl (argsL := [(.ref kd), (.ref a51)]) (rest := [(.ref a)]) rfl rfl d5_10 (Nat.le_of_ble_eq_true rfl) (Nat.le_of_ble_eq_true rfl) (Nat.le_of_ble_eq_true rfl) (Nat.le_of_ble_eq_true rfl) (pc' := 13) rfl (fun T52 v52 L52 X52 Q52 => ?_)
  obtain ⟨rfl, rfl, Hc52⟩ := Q52
  rw [List.append_nil] at X52
  show OwF p e below _ T52 (mkF m 13 #[.val (.ref a), .val (.ref kd), .val (.ref msg), .val .null] [(.ref kd), (.ref a)])
  refine ow_cast C X52 Hc52 (hw _ (List.mem_of_getElem? (i := 97) rfl)) (Ins.self E51_1) d5_13 (pc' := 16) rfl (fun T53 X53 e53 => ?_)
  refine ow_putF C X53 e53 (hw _ (List.mem_of_getElem? (i := 99) rfl)) F51_2 E51_0 (Or.inr ⟨(hw _ (List.mem_of_getElem? (i := 100) rfl)), rfl, rfl⟩) (hw _ (List.mem_of_getElem? (i := 17) rfl)) (ty := (.object "com/example/topsail/topsail/TopsailException$Kind")) (by decide) rfl rfl d5_16 (pc' := 19) rfl (fun T54 h54 X54 e54 W54 => ?_)
  have E54_0 := E51_0.wr W54
  have E54_1 := E51_1.wr W54
  have F54_2 := F51_2.same W54
  have K54 : Keep h0 h54 [a] := K51.wr W54 (Or.inl (List.mem_singleton.mpr rfl))
  have N54 := Fr.snoc X54 Nn50 g0
  have Y54 := Nat.le_trans Yk51 (Nat.le_of_eq W54.size.symm)
  refine ow_retVW (s := s) (vm0 := T51.vm) C hS X54 (Nat.le_trans Y54 (Nat.le_of_eq (congrArg Array.size e54.symm))) d5_19 (Nat.le_of_ble_eq_true rfl) (Nat.le_of_ble_eq_true rfl) ?_
  rw [e54]
  exact ⟨rfl, N54, K54, E54_0⟩
theorem d4_0 : decode prog_16_method_1_code 0 = .ok (.aload_n 0, 1) := by decide +kernel
theorem d4_1 : decode prog_16_method_1_code 1 = .ok (.getstatic 1, 3) := by decide +kernel
theorem d4_4 : decode prog_16_method_1_code 4 = .ok (.aload_n 1, 1) := by decide +kernel
theorem d4_5 : decode prog_16_method_1_code 5 = .ok (.aload_n 2, 1) := by decide +kernel
theorem d4_6 : decode prog_16_method_1_code 6 = .ok (.invokespecial 7, 3) := by decide +kernel
theorem d4_9 : decode prog_16_method_1_code 9 = .ok (.return_, 1) := by decide +kernel
theorem pn_4 : plainFor (⟨"com/example/topsail/topsail/UnmatchableValueException", "<init>", "(Ljava/lang/String;Ljava/lang/Throwable;)V"⟩ : MethodName) = true := by first | exact plainFor_of_name (by first | (simp [plainName, overriddenIn]; done) | decide +kernel) | decide +kernel
set_option maxRecDepth 65536 in
set_option maxHeartbeats 40000000 in
theorem rm_uve {l : Launch} (hl : l.stackTraces = true) (Z : State) (a0 : Array Value) (hw : ∀ d ∈ tables_1, d.before a0 Z = true) (a kd msg : Addr) (h0 : Heap) (n0 : Nat) (g0 : n0 ≤ a) (u1 u2 : RefV) (S1 : Sta Z h0 "java/lang/Throwable" "UNASSIGNED_STACK" "[Ljava/lang/StackTraceElement;" u1.v) (S2 : Sta Z h0 "java/lang/Throwable" "SUPPRESSED_SENTINEL" "Ljava/util/List;" u2.v) (H0 : ThS Z h0) (E0 : Exa Z h0 a "com/example/topsail/topsail/UnmatchableValueException") (U0 : Unt h0 a) (F1 : Fld Z h0 a "java/lang/Throwable" "cause" "Ljava/lang/Throwable;" .null) (F2 : Fld Z h0 a "java/lang/Throwable" "stackTrace" "[Ljava/lang/StackTraceElement;" .null) (F3 : Fld Z h0 a "java/lang/Throwable" "suppressedExceptions" "Ljava/util/List;" .null) (F4 : Fld Z h0 a "java/lang/Throwable" "detailMessage" "Ljava/lang/String;" .null) (F5 : Fld Z h0 a "java/lang/Throwable" "backtrace" "Ljava/lang/Object;" .null) (F6 : Fld Z h0 a "com/example/topsail/topsail/TopsailException" "kind" "Lcom/example/topsail/topsail/TopsailException$Kind;" .null) (EK : Exa Z h0 kd "com/example/topsail/topsail/TopsailException$Kind") (SK : Sta Z h0 "com/example/topsail/topsail/TopsailException$Kind" "UNMATCHABLE_VALUE" "Lcom/example/topsail/topsail/TopsailException$Kind;" (.ref kd)) :
    OwConW true l (⟨"com/example/topsail/topsail/UnmatchableValueException", "<init>", "(Ljava/lang/String;Ljava/lang/Throwable;)V"⟩ : MethodName) prog_16_method_1_code 3 none ({ frames := 7, cells := 3, slots := 2772, locals := 103 } : Room) Z #[(.ref a), (.ref msg), .null] h0 (fun v h L => v = none ∧ Fr n0 L ∧ Keep h0 h [a] ∧ Exa Z h a "com/example/topsail/topsail/UnmatchableValueException") := by
  refine OwConW.of pn_4 (Ls := #[.val (.ref a), .val (.ref msg), .val .null]) (fun m => by first | (simp [entryFrame, mkF, argsToLocals, Value.category]; done) | rfl) ?_
  intro p e s m below meth c s₁ hTK C X0 e0 eS hS
  refine ow_aloadN C X0 d4_0 rfl rfl (pc' := 1) rfl ?_
  refine ow_getS C X0 e0 (hw _ (List.mem_of_getElem? (i := 30) rfl)) SK d4_1 (pc' := 4) rfl (fun T55 X55 e55 => ?_)
  refine ow_aloadN C X55 d4_4 rfl rfl (pc' := 5) rfl ?_
  refine ow_aloadN C X55 d4_5 rfl rfl (pc' := 6) rfl ?_
  refine ow_callNW (s := s) (vm0 := s.vm) C hTK hS X55 e55 (Nat.le_of_eq (congrArg Array.size eS)) rfl (hw _ (List.mem_of_getElem? (i := 33) rfl)) (hw _ (List.mem_of_getElem? (i := 34) rfl)) (hw _ (List.mem_of_getElem? (i := 36) rfl)) (hw _ (List.mem_of_getElem? (i := 37) rfl)) (by decide) (rm_tex hl Z a0 hw a kd msg h0 n0 g0 u1 u2 S1 S2 H0 E0 U0 F1 F2 F3 F4 F5 F6 EK) pd_15 rfl (argsL := [(.ref kd), (.ref msg), .null]) (rest := []) rfl rfl d4_6 (Nat.le_of_ble_eq_true rfl) (Nat.le_of_ble_eq_true rfl) (Nat.le_of_ble_eq_true rfl) (Nat.le_of_ble_eq_true rfl) (pc' := 9) rfl (fun T56 v56 L56 C hTK hS X56 Q56 => ?_)
  obtain ⟨rfl, N56, K56, E56⟩ := Q56
  have E56_0 := E0.keep K56
  have E56_1 := EK.keep K56
  have Kc56 := (Keep.refl h0 [a]).trans K56 (fun x hx => Or.inl hx)
  have Nn56 := Fr.app (Fr.nil n0) N56
  show OwF p e below _ T56 (mkF m 9 #[.val (.ref a), .val (.ref msg), .val .null] [])
  refine ow_retVW (s := s) (vm0 := T56.vm) C hS X56 (Nat.le_refl T56.heap.size) d4_9 (Nat.le_of_ble_eq_true rfl) (Nat.le_of_ble_eq_true rfl) ?_
  exact ⟨rfl, Nn56, Kc56, E56⟩
theorem d1_0 : decode prog_2_method_1_code 0 = .ok (.aload_n 0, 1) := by decide +kernel
theorem d1_1 : decode prog_2_method_1_code 1 = .ok (.invokespecial 1, 3) := by decide +kernel
theorem d1_4 : decode prog_2_method_1_code 4 = .ok (.return_, 1) := by decide +kernel
theorem pn_1 : plainFor (⟨"com/example/topsail/topsail/FirstRefusal", "<init>", "()V"⟩ : MethodName) = true := by first | exact plainFor_of_name (by first | (simp [plainName, overriddenIn]; done) | decide +kernel) | decide +kernel
theorem pd_16 : parseMethodDescriptor "()V" = some ⟨[], none⟩ := by decide +kernel
set_option maxRecDepth 65536 in
set_option maxHeartbeats 40000000 in
theorem rm_fri (l : Launch) (Z : State) (a0 : Array Value) (hw : ∀ d ∈ tables_1, d.before a0 Z = true) (o0 : Addr)  (h0 : Heap)   :
    OwCon l (⟨"com/example/topsail/topsail/FirstRefusal", "<init>", "()V"⟩ : MethodName) prog_2_method_1_code 1 none ({ frames := 1, cells := 0, slots := 0, locals := 12 } : Room) Z #[(.ref o0)] h0 (OwP none h0) := by
  refine OwCon.of pn_1 (Ls := #[.val (.ref o0)]) (fun m => by first | (simp [entryFrame, mkF, argsToLocals, Value.category]; done) | rfl) ?_
  intro p e s m below meth c s₁ C X0 e0
  refine ow_aloadN C X0 d1_0 rfl rfl (pc' := 1) rfl ?_
  refine ow_initO C X0 e0 (hw _ (List.mem_of_getElem? (i := 6) rfl)) (hw _ (List.mem_of_getElem? (i := 7) rfl)) (hw _ (List.mem_of_getElem? (i := 8) rfl)) rfl d1_1 (Nat.le_of_ble_eq_true rfl) (Nat.le_of_ble_eq_true rfl) (pc' := 4) rfl (fun T57 X57 e57 => ?_)
  exact ow_retV C X57 d1_4 (Nat.le_of_ble_eq_true rfl) (Nat.le_of_ble_eq_true rfl) ⟨rfl, rfl, e57⟩
theorem own_c255 (x : Int32) : ¬ (255 : Int32) < (x &&& (255 : Int32)).toUInt32.toUInt16.toUInt32.toInt32 := by
  rw [Int32.lt_iff_toInt_lt]
  have e : (255 : Int32).toInt = 255 := rfl
  have h : (x &&& (255 : Int32)).toBitVec.toNat ≤ 255 := by rw [Int32.toBitVec_and, BitVec.toNat_and]; exact Nat.and_le_right
  have h2 : ((x &&& (255 : Int32)).toUInt32.toUInt16.toUInt32.toInt32).toBitVec.toNat ≤ 255 := by
    show ((x &&& (255 : Int32)).toUInt32.toUInt16.toUInt32).toNat ≤ 255
    rw [UInt16.toNat_toUInt32, UInt32.toNat_toUInt16]
    exact Nat.le_trans (Nat.mod_le _ _) h
  have h3 : ((x &&& (255 : Int32)).toUInt32.toUInt16.toUInt32.toInt32).toInt = (((x &&& (255 : Int32)).toUInt32.toUInt16.toUInt32.toInt32).toBitVec.toNat : Int) := by
    show ((x &&& (255 : Int32)).toUInt32.toUInt16.toUInt32.toInt32).toBitVec.toInt = _
    rw [BitVec.toInt_eq_toNat_of_lt (by omega)]
  omega

theorem pn_0 : plainFor (⟨"com/example/topsail/topsail/FirstRefusalFoundPinLaw", "law", "(IIIIII)Z"⟩ : MethodName) = true := by first | exact plainFor_of_name (by first | (simp [plainName, overriddenIn]; done) | decide +kernel) | decide +kernel
theorem pd_17 : parseMethodDescriptor "(IIIIII)Z" = some ⟨[.int, .int, .int, .int, .int, .int], (some .boolean)⟩ := by decide +kernel
def own_law (q0 : Int32) : Int32 := if (q0 &&& (3 : Int32)) < (1 : Int32) then (if (q0 &&& (3 : Int32)) < (2 : Int32) then (if (q0 &&& (3 : Int32)) < (3 : Int32) then (if 0 < (q0 &&& (3 : Int32)) then (0 : Int32) else (1 : Int32)) else if 0 < (q0 &&& (3 : Int32)) then (1 : Int32) else (0 : Int32)) else if (q0 &&& (3 : Int32)) < (3 : Int32) then (if 0 < (q0 &&& (3 : Int32)) then (1 : Int32) else (0 : Int32)) else if 0 < (q0 &&& (3 : Int32)) then (1 : Int32) else (0 : Int32)) else if (q0 &&& (3 : Int32)) < (2 : Int32) then (if (q0 &&& (3 : Int32)) < (3 : Int32) then (if 0 < (q0 &&& (3 : Int32)) then (1 : Int32) else (0 : Int32)) else if 0 < (q0 &&& (3 : Int32)) then (1 : Int32) else (0 : Int32)) else if (q0 &&& (3 : Int32)) < (3 : Int32) then (if 0 < (q0 &&& (3 : Int32)) then (1 : Int32) else (0 : Int32)) else if 0 < (q0 &&& (3 : Int32)) then (1 : Int32) else (0 : Int32)
set_option maxRecDepth 65536 in
set_option maxHeartbeats 40000000 in
theorem rm_law {l : Launch} (hl : l.stackTraces = true) (Z : State) (a0 : Array Value) (hw : ∀ d ∈ tables_1, d.before a0 Z = true) (q0 : Int32) (q1 : Int32) (q2 : Int32) (q3 : Int32) (q4 : Int32) (q5 : Int32) (n0 : Nat) (h0 : Heap) (Z0 : n0 ≤ h0.size) (u1 u2 : RefV) (S1 : Sta Z Z.heap "java/lang/Throwable" "UNASSIGNED_STACK" "[Ljava/lang/StackTraceElement;" u1.v) (S2 : Sta Z Z.heap "java/lang/Throwable" "SUPPRESSED_SENTINEL" "Ljava/util/List;" u2.v) (H0 : ThS Z h0) (O0 : Old Z n0 h0) (ck : Int32) (hck : ¬ ck = 0) (SC : Sta Z Z.heap "java/lang/String" "COMPACT_STRINGS" "Z" (.int ck)) (kd : Addr) (SK : Sta Z Z.heap "com/example/topsail/topsail/TopsailException$Kind" "UNMATCHABLE_VALUE" "Lcom/example/topsail/topsail/TopsailException$Kind;" (.ref kd)) (EK : Exa Z h0 kd "com/example/topsail/topsail/TopsailException$Kind") :
    OwConL l (⟨"com/example/topsail/topsail/FirstRefusalFoundPinLaw", "law", "(IIIIII)Z"⟩ : MethodName) code maxLocals ret room_1 Z #[(.int q0), (.int q1), (.int q2), (.int q3), (.int q4), (.int q5)] h0 (fun v h L => v = some (.int (own_law q0)) ∧ Fr n0 L) := by
  refine OwConL.of pn_0 (Ls := #[.val (.int q0), .val (.int q1), .val (.int q2), .val (.int q3), .val (.int q4), .val (.int q5), .unset, .unset, .unset, .unset, .unset, .unset]) (fun m => by first | (simp [entryFrame, mkF, argsToLocals, Value.category, maxLocals]; done) | rfl) ?_
  intro p e s m below meth c s₁ hTK C X0 e0 eS hS
  refine ow_iloadN C X0 at_0 rfl (pc' := 1) rfl ?_
  refine ow_iconst (3 : Int32) C X0 at_1 (by decide) (pc' := 2) rfl ?_
  refine ow_iand C X0 at_2 (pc' := 3) rfl ?_
  refine ow_istore C X0 at_3 (Ls' := #[.val (.int q0), .val (.int q1), .val (.int q2), .val (.int q3), .val (.int q4), .val (.int q5), .val (.int (q0 &&& (3 : Int32))), .unset, .unset, .unset, .unset, .unset]) rfl (pc' := 5) rfl ?_
  refine ow_newU C X0 e0 (hw _ (List.mem_of_getElem? (i := 0) rfl)) (hw _ (List.mem_of_getElem? (i := 1) rfl)) (hw _ (List.mem_of_getElem? (i := 2) rfl)) at_5 (Nat.le_of_ble_eq_true rfl) (Nat.le_of_ble_eq_true rfl) (pc' := 8) rfl (fun T58 h58 a58 g58 X58 e58 Ex58 A58 D58 Un58 => ?_)
  have lq58_kd : kd < a58 := Nat.lt_of_lt_of_le EK.lt (Nat.le_of_eq g58.symm)
  have E58_0 := EK.ext Ex58
  have Ge58 : n0 ≤ a58 := Nat.le_trans Z0 (Nat.le_of_eq g58.symm)
  have Z58 : n0 ≤ h58.size := Nat.le_trans Z0 Ex58.1
  have O58 := O0.ext Ex58
  have Y58 := Nat.le_trans (Nat.le_of_eq (congrArg Array.size eS)) Ex58.1
  have H58 := ThS.ext Ex58 H0
  have Fn58_0 : Fld Z h58 a58 "com/example/topsail/topsail/FirstRefusal" "reason" "Lcom/example/topsail/topsail/UnmatchableValueException;" .null := D58 (Or.inl (hw _ (List.mem_of_getElem? (i := 15) rfl))) (ty := (.object "com/example/topsail/topsail/UnmatchableValueException")) (by decide)
  have Fn58_1 : Fld Z h58 a58 "com/example/topsail/topsail/FirstRefusal" "id" "Ljava/lang/String;" .null := D58 (Or.inl (hw _ (List.mem_of_getElem? (i := 127) rfl))) (ty := (.object "java/lang/String")) (by decide)
  have Fn58_2 : Fld Z h58 a58 "com/example/topsail/topsail/FirstRefusal" "position" "I" (.int (0 : Int32)) := D58 (Or.inl (hw _ (List.mem_of_getElem? (i := 129) rfl))) (ty := .int) (by decide)
  refine ow_dup C X58 at_8 rfl (pc' := 9) rfl ?_
  refine ow_callNP C X58 e58 rfl (hw _ (List.mem_of_getElem? (i := 3) rfl)) (hw _ (List.mem_of_getElem? (i := 4) rfl)) (hw _ (List.mem_of_getElem? (i := 2) rfl)) (hw _ (List.mem_of_getElem? (i := 5) rfl)) (by decide) (rm_fri l Z a0 hw a58 h58) ⟨rfl, rfl⟩ pd_16 rfl (argsL := []) (rest := [(.ref a58)]) rfl rfl at_9 (Nat.le_of_ble_eq_true rfl) (Nat.le_of_ble_eq_true rfl) (Nat.le_of_ble_eq_true rfl) (Nat.le_of_ble_eq_true rfl) (pc' := 12) rfl (fun T59 X59 e59 => ?_)
  refine ow_astore C X59 at_12 rfl (Ls' := #[.val (.int q0), .val (.int q1), .val (.int q2), .val (.int q3), .val (.int q4), .val (.int q5), .val (.int (q0 &&& (3 : Int32))), .val (.ref a58), .unset, .unset, .unset, .unset]) rfl (pc' := 14) rfl ?_
  refine ow_aload C X59 at_14 rfl rfl (pc' := 16) rfl ?_
  refine ow_callV C X59 e59 (hw _ (List.mem_of_getElem? (i := 9) rfl)) (hw _ (List.mem_of_getElem? (i := 10) rfl)) (hw _ (List.mem_of_getElem? (i := 12) rfl)) rfl (hw _ (List.mem_of_getElem? (i := 11) rfl)) (hw _ (List.mem_of_getElem? (i := 2) rfl)) (hw _ (List.mem_of_getElem? (i := 13) rfl)) (by decide) A58 (rm_fndN l Z a0 hw a58 h58 Fn58_0) pd_0 rfl (argsL := []) (rest := []) rfl rfl at_16 (Nat.le_of_ble_eq_true rfl) (Nat.le_of_ble_eq_true rfl) (Nat.le_of_ble_eq_true rfl) (Nat.le_of_ble_eq_true rfl) (pc' := 19) rfl (fun T60 v60 L60 X60 Q60 => ?_)
  obtain ⟨rfl, rfl, Hc60⟩ := Q60
  rw [List.append_nil] at X60
  show OwF p e below _ T60 (mkF m 19 #[.val (.int q0), .val (.int q1), .val (.int q2), .val (.int q3), .val (.int q4), .val (.int q5), .val (.int (q0 &&& (3 : Int32))), .val (.ref a58), .unset, .unset, .unset, .unset] [(.int (0 : Int32))])
  refine ow_if_ne C X60 at_19 (pcT := 26) (pc' := 22) (by decide) (by decide) rfl (fun bq => absurd (by decide) bq) (fun _ => ?_)
  refine ow_iconst (1 : Int32) C X60 at_22 (by decide) (pc' := 23) rfl ?_
  refine ow_goto C X60 at_23 (pcT := 27) (by decide) (by decide) ?_
  refine ow_istore C X60 at_27 (Ls' := #[.val (.int q0), .val (.int q1), .val (.int q2), .val (.int q3), .val (.int q4), .val (.int q5), .val (.int (q0 &&& (3 : Int32))), .val (.ref a58), .val (.int (1 : Int32)), .unset, .unset, .unset]) rfl (pc' := 29) rfl ?_
  refine ow_newU C X60 Hc60 (hw _ (List.mem_of_getElem? (i := 16) rfl)) (hw _ (List.mem_of_getElem? (i := 17) rfl)) (hw _ (List.mem_of_getElem? (i := 18) rfl)) at_29 (Nat.le_of_ble_eq_true rfl) (Nat.le_of_ble_eq_true rfl) (pc' := 32) rfl (fun T61 h61 a61 g61 X61 e61 Ex61 A61 D61 Un61 => ?_)
  have lq61_kd : kd < a61 := Nat.lt_of_lt_of_le E58_0.lt (Nat.le_of_eq g61.symm)
  have lq61_a58 : a58 < a61 := Nat.lt_of_lt_of_le A58.lt (Nat.le_of_eq g61.symm)
  have E61_0 := E58_0.ext Ex61
  have E61_1 := A58.ext Ex61
  have F61_2 := Fn58_0.ext Ex61
  have F61_3 := Fn58_1.ext Ex61
  have F61_4 := Fn58_2.ext Ex61
  have Ge61 : n0 ≤ a61 := Nat.le_trans Z58 (Nat.le_of_eq g61.symm)
  have Z61 : n0 ≤ h61.size := Nat.le_trans Z58 Ex61.1
  have O61 := O58.ext Ex61
  have Y61 := Nat.le_trans Y58 Ex61.1
  have H61 := ThS.ext Ex61 H58
  have Un61_a58 := Unt.ext Ex61 Un58
  have Fn61_0 : Fld Z h61 a61 "java/lang/Throwable" "cause" "Ljava/lang/Throwable;" .null := D61 (Or.inl (hw _ (List.mem_of_getElem? (i := 57) rfl))) (ty := (.object "java/lang/Throwable")) (by decide)
  have Fn61_1 : Fld Z h61 a61 "java/lang/Throwable" "stackTrace" "[Ljava/lang/StackTraceElement;" .null := D61 (Or.inl (hw _ (List.mem_of_getElem? (i := 60) rfl))) (ty := (.array (.object "java/lang/StackTraceElement"))) (by decide)
  have Fn61_2 : Fld Z h61 a61 "java/lang/Throwable" "suppressedExceptions" "Ljava/util/List;" .null := D61 (Or.inl (hw _ (List.mem_of_getElem? (i := 63) rfl))) (ty := (.object "java/util/List")) (by decide)
  have Fn61_3 : Fld Z h61 a61 "java/lang/Throwable" "detailMessage" "Ljava/lang/String;" .null := D61 (Or.inl (hw _ (List.mem_of_getElem? (i := 87) rfl))) (ty := (.object "java/lang/String")) (by decide)
  have Fn61_4 : Fld Z h61 a61 "java/lang/Throwable" "backtrace" "Ljava/lang/Object;" .null := D61 (Or.inl (hw _ (List.mem_of_getElem? (i := 88) rfl))) (ty := (.object "java/lang/Object")) (by decide)
  have Fn61_5 : Fld Z h61 a61 "java/lang/Throwable" "depth" "I" (.int (0 : Int32)) := D61 (Or.inl (hw _ (List.mem_of_getElem? (i := 89) rfl))) (ty := .int) (by decide)
  have Fn61_6 : Fld Z h61 a61 "com/example/topsail/topsail/TopsailException" "kind" "Lcom/example/topsail/topsail/TopsailException$Kind;" .null := D61 (Or.inr (hw _ (List.mem_of_getElem? (i := 100) rfl))) (ty := (.object "com/example/topsail/topsail/TopsailException$Kind")) (by decide)
  refine ow_dup C X61 at_32 rfl (pc' := 33) rfl ?_
  refine ow_ldcS (s := s) (vm0 := s.vm) (n := 4) C hTK hS X61 e61 Y61 (hw _ (List.mem_of_getElem? (i := 19) rfl)) (own_str hw) at_33 (by decide) (Nat.le_of_ble_eq_true rfl) (Nat.le_of_ble_eq_true rfl) (Nat.le_of_ble_eq_true rfl) (pc' := 35) rfl (fun a62 T62 h62 k62 C hTK hS X62 e62 Ex62 Yk62 => ?_)
  have E62_0 := E61_0.ext Ex62
  have E62_1 := E61_1.ext Ex62
  have E62_2 := A61.ext Ex62
  have F62_3 := F61_2.ext Ex62
  have F62_4 := F61_3.ext Ex62
  have F62_5 := F61_4.ext Ex62
  have F62_6 := Fn61_0.ext Ex62
  have F62_7 := Fn61_1.ext Ex62
  have F62_8 := Fn61_2.ext Ex62
  have F62_9 := Fn61_3.ext Ex62
  have F62_10 := Fn61_4.ext Ex62
  have F62_11 := Fn61_5.ext Ex62
  have F62_12 := Fn61_6.ext Ex62
  have Z62 : n0 ≤ h62.size := Nat.le_trans Z61 Ex62.1
  have O62 := O61.ext Ex62
  have H62 := ThS.ext Ex62 H61
  have Un62_a58 := Unt.ext Ex62 Un61_a58
  have Un62_a61 := Unt.ext Ex62 Un61
  refine ow_aconstNull C X62 at_35 (pc' := 36) rfl ?_
  refine ow_callNW (s := s) (vm0 := T62.vm) C hTK hS X62 e62 Yk62 rfl (hw _ (List.mem_of_getElem? (i := 27) rfl)) (hw _ (List.mem_of_getElem? (i := 28) rfl)) (hw _ (List.mem_of_getElem? (i := 18) rfl)) (hw _ (List.mem_of_getElem? (i := 29) rfl)) (by decide) (rm_uve hl Z a0 hw a61 kd a62 h62 n0 Ge61 u1 u2 (S1.ext O62.2) (S2.ext O62.2) H62 E62_2 Un62_a61 F62_6 F62_7 F62_8 F62_9 F62_10 F62_12 E62_0 (SK.ext O62.2)) pd_14 rfl (argsL := [(.ref a62), .null]) (rest := [(.ref a61)]) rfl rfl at_36 (Nat.le_of_ble_eq_true rfl) (Nat.le_of_ble_eq_true rfl) (Nat.le_of_ble_eq_true rfl) (Nat.le_of_ble_eq_true rfl) (pc' := 39) rfl (fun T63 v63 L63 C hTK hS X63 Q63 => ?_)
  obtain ⟨rfl, N63, K63, E63⟩ := Q63
  have E63_0 := E62_0.keep K63
  have E63_1 := E62_1.keep K63
  have E63_2 := E62_2.keep K63
  have F63_3 := F62_3.keep K63 (own_nm1 (Nat.ne_of_lt lq61_a58))
  have F63_4 := F62_4.keep K63 (own_nm1 (Nat.ne_of_lt lq61_a58))
  have F63_5 := F62_5.keep K63 (own_nm1 (Nat.ne_of_lt lq61_a58))
  have Nn63 := Fr.app (Fr.nil n0) N63
  have Z63 : n0 ≤ T63.heap.size := Nat.le_trans Z62 K63.1
  have O63 := O62.keep K63 (own_all1 Ge61)
  show OwF p e below _ T63 (mkF m 39 #[.val (.int q0), .val (.int q1), .val (.int q2), .val (.int q3), .val (.int q4), .val (.int q5), .val (.int (q0 &&& (3 : Int32))), .val (.ref a58), .val (.int (1 : Int32)), .unset, .unset, .unset] [(.ref a61)])
  refine ow_astore C X63 at_39 rfl (Ls' := #[.val (.int q0), .val (.int q1), .val (.int q2), .val (.int q3), .val (.int q4), .val (.int q5), .val (.int (q0 &&& (3 : Int32))), .val (.ref a58), .val (.int (1 : Int32)), .val (.ref a61), .unset, .unset]) rfl (pc' := 41) rfl ?_
  refine ow_iloadN C X63 at_41 rfl (pc' := 42) rfl ?_
  refine ow_sipush (255 : Int32) C X63 at_42 (by decide) (pc' := 45) rfl ?_
  refine ow_iand C X63 at_45 (pc' := 46) rfl ?_
  refine ow_i2c C X63 at_46 (pc' := 47) rfl ?_
  refine ow_callS C X63 rfl (hw _ (List.mem_of_getElem? (i := 101) rfl)) (hw _ (List.mem_of_getElem? (i := 102) rfl)) (hw _ (List.mem_of_getElem? (i := 20) rfl)) (hw _ (List.mem_of_getElem? (i := 103) rfl)) (by decide) (rm_vof l Z a0 hw (q1 &&& (255 : Int32)).toUInt32.toUInt16.toUInt32.toInt32 (own_c255 _) T63.heap n0 Z63 O63 ck hck SC) pd_12 rfl (argsL := [(.int (q1 &&& (255 : Int32)).toUInt32.toUInt16.toUInt32.toInt32)]) (rest := []) rfl rfl at_47 (Nat.le_of_ble_eq_true rfl) (Nat.le_of_ble_eq_true rfl) (Nat.le_of_ble_eq_true rfl) (Nat.le_of_ble_eq_true rfl) (pc' := 50) rfl (fun T64 v64 L64 X64 Q64 => ?_)
  obtain ⟨s64, rfl, N64, K64, S64⟩ := Q64
  have E64_0 := E63_0.keep K64
  have E64_1 := E63_1.keep K64
  have E64_2 := E63.keep K64
  have F64_3 := F63_3.keep K64 own_nil
  have F64_4 := F63_4.keep K64 own_nil
  have F64_5 := F63_5.keep K64 own_nil
  have Nn64 := Fr.app Nn63 N64
  have Z64 : n0 ≤ T64.heap.size := Nat.le_trans Z63 K64.1
  have O64 := O63.keep K64 own_all0
  have Y64 := Nat.le_trans (Nat.le_refl T63.heap.size) K64.1
  show OwF p e below _ T64 (mkF m 50 #[.val (.int q0), .val (.int q1), .val (.int q2), .val (.int q3), .val (.int q4), .val (.int q5), .val (.int (q0 &&& (3 : Int32))), .val (.ref a58), .val (.int (1 : Int32)), .val (.ref a61), .unset, .unset] [(.ref s64)])
  refine ow_astore C X64 at_50 rfl (Ls' := #[.val (.int q0), .val (.int q1), .val (.int q2), .val (.int q3), .val (.int q4), .val (.int q5), .val (.int (q0 &&& (3 : Int32))), .val (.ref a58), .val (.int (1 : Int32)), .val (.ref a61), .val (.ref s64), .unset]) rfl (pc' := 52) rfl ?_
  refine ow_iloadN C X64 at_52 rfl (pc' := 53) rfl ?_
  refine ow_sipush (255 : Int32) C X64 at_53 (by decide) (pc' := 56) rfl ?_
  refine ow_iand C X64 at_56 (pc' := 57) rfl ?_
  refine ow_i2c C X64 at_57 (pc' := 58) rfl ?_
  refine ow_callS C X64 rfl (hw _ (List.mem_of_getElem? (i := 101) rfl)) (hw _ (List.mem_of_getElem? (i := 102) rfl)) (hw _ (List.mem_of_getElem? (i := 20) rfl)) (hw _ (List.mem_of_getElem? (i := 103) rfl)) (by decide) (rm_vof l Z a0 hw (q3 &&& (255 : Int32)).toUInt32.toUInt16.toUInt32.toInt32 (own_c255 _) T64.heap n0 Z64 O64 ck hck SC) pd_12 rfl (argsL := [(.int (q3 &&& (255 : Int32)).toUInt32.toUInt16.toUInt32.toInt32)]) (rest := []) rfl rfl at_58 (Nat.le_of_ble_eq_true rfl) (Nat.le_of_ble_eq_true rfl) (Nat.le_of_ble_eq_true rfl) (Nat.le_of_ble_eq_true rfl) (pc' := 61) rfl (fun T65 v65 L65 X65 Q65 => ?_)
  obtain ⟨s65, rfl, N65, K65, S65⟩ := Q65
  have E65_0 := E64_0.keep K65
  have E65_1 := E64_1.keep K65
  have E65_2 := E64_2.keep K65
  have F65_3 := F64_3.keep K65 own_nil
  have F65_4 := F64_4.keep K65 own_nil
  have F65_5 := F64_5.keep K65 own_nil
  have S65_s64 := S64.keep0 K65
  have Nn65 := Fr.app Nn64 N65
  have Z65 : n0 ≤ T65.heap.size := Nat.le_trans Z64 K65.1
  have O65 := O64.keep K65 own_all0
  have Y65 := Nat.le_trans Y64 K65.1
  show OwF p e below _ T65 (mkF m 61 #[.val (.int q0), .val (.int q1), .val (.int q2), .val (.int q3), .val (.int q4), .val (.int q5), .val (.int (q0 &&& (3 : Int32))), .val (.ref a58), .val (.int (1 : Int32)), .val (.ref a61), .val (.ref s64), .unset] [(.ref s65)])
  refine ow_astore C X65 at_61 rfl (Ls' := #[.val (.int q0), .val (.int q1), .val (.int q2), .val (.int q3), .val (.int q4), .val (.int q5), .val (.int (q0 &&& (3 : Int32))), .val (.ref a58), .val (.int (1 : Int32)), .val (.ref a61), .val (.ref s64), .val (.ref s65)]) rfl (pc' := 63) rfl ?_
  refine ow_iload C X65 at_63 rfl (pc' := 65) rfl ?_
  refine ow_iconst (1 : Int32) C X65 at_65 (by decide) (pc' := 66) rfl ?_
  refine ow_icmp_lt C X65 at_66 (pcT := 99) (pc' := 69) (by decide) (by decide) rfl (fun b66 => ?_) (fun b66 => ?_)
  · refine ow_iload C X65 at_99 rfl (pc' := 101) rfl ?_
    refine ow_iconst (2 : Int32) C X65 at_101 (by decide) (pc' := 102) rfl ?_
    refine ow_icmp_lt C X65 at_102 (pcT := 136) (pc' := 105) (by decide) (by decide) rfl (fun b102 => ?_) (fun b102 => ?_)
    · refine ow_iload C X65 at_136 rfl (pc' := 138) rfl ?_
      refine ow_iconst (3 : Int32) C X65 at_138 (by decide) (pc' := 139) rfl ?_
      refine ow_icmp_lt C X65 at_139 (pcT := 173) (pc' := 142) (by decide) (by decide) rfl (fun b139 => ?_) (fun b139 => ?_)
      · refine ow_iload C X65 at_173 rfl (pc' := 175) rfl ?_
        refine ow_if_eq C X65 at_175 (pcT := 200) (pc' := 178) (by decide) (by decide) rfl (fun bq => absurd bq (by decide)) (fun _ => ?_)
        refine ow_aload C X65 at_178 rfl rfl (pc' := 180) rfl ?_
        refine ow_callV C X65 rfl (hw _ (List.mem_of_getElem? (i := 9) rfl)) (hw _ (List.mem_of_getElem? (i := 10) rfl)) (hw _ (List.mem_of_getElem? (i := 12) rfl)) rfl (hw _ (List.mem_of_getElem? (i := 11) rfl)) (hw _ (List.mem_of_getElem? (i := 2) rfl)) (hw _ (List.mem_of_getElem? (i := 13) rfl)) (by decide) E65_1 (rm_fndN l Z a0 hw a58 T65.heap F65_3) pd_0 rfl (argsL := []) (rest := []) rfl rfl at_180 (Nat.le_of_ble_eq_true rfl) (Nat.le_of_ble_eq_true rfl) (Nat.le_of_ble_eq_true rfl) (Nat.le_of_ble_eq_true rfl) (pc' := 183) rfl (fun T66 v66 L66 X66 Q66 => ?_)
        obtain ⟨rfl, rfl, Hc66⟩ := Q66
        rw [List.append_nil] at X66
        show OwF p e below _ T66 (mkF m 183 #[.val (.int q0), .val (.int q1), .val (.int q2), .val (.int q3), .val (.int q4), .val (.int q5), .val (.int (q0 &&& (3 : Int32))), .val (.ref a58), .val (.int (1 : Int32)), .val (.ref a61), .val (.ref s64), .val (.ref s65)] [(.int (0 : Int32))])
        refine ow_iload C X66 at_183 rfl (pc' := 185) rfl ?_
        refine ow_if_le C X66 at_185 (pcT := 192) (pc' := 188) (by decide) (by decide) rfl (fun b185 => ?_) (fun b185 => ?_)
        · refine ow_iconst (0 : Int32) C X66 at_192 (by decide) (pc' := 193) rfl ?_
          refine ow_icmp_ne C X66 at_193 (pcT := 200) (pc' := 196) (by decide) (by decide) rfl (fun bq => absurd (by decide) bq) (fun _ => ?_)
          refine ow_iconst (1 : Int32) C X66 at_196 (by decide) (pc' := 197) rfl ?_
          refine ow_goto C X66 at_197 (pcT := 201) (by decide) (by decide) ?_
          exact ow_retZW (s := s) (vm0 := T63.vm) C hS X66 (Nat.le_trans Y65 (Nat.le_of_eq (congrArg Array.size Hc66.symm))) at_201 (Nat.le_of_ble_eq_true rfl) (Nat.le_of_ble_eq_true rfl) (Or.inr rfl) ⟨(show some (Value.int (1 : Int32)) = some (Value.int (own_law q0)) from congrArg (fun z => some (Value.int z)) (by unfold own_law; rw [if_pos b66, if_pos b102, if_pos b139, if_neg b185])), Nn65⟩
        · refine ow_iconst (1 : Int32) C X66 at_188 (by decide) (pc' := 189) rfl ?_
          refine ow_goto C X66 at_189 (pcT := 193) (by decide) (by decide) ?_
          refine ow_icmp_ne C X66 at_193 (pcT := 200) (pc' := 196) (by decide) (by decide) rfl (fun _ => ?_) (fun bq => absurd bq (by decide))
          refine ow_iconst (0 : Int32) C X66 at_200 (by decide) (pc' := 201) rfl ?_
          exact ow_retZW (s := s) (vm0 := T63.vm) C hS X66 (Nat.le_trans Y65 (Nat.le_of_eq (congrArg Array.size Hc66.symm))) at_201 (Nat.le_of_ble_eq_true rfl) (Nat.le_of_ble_eq_true rfl) (Or.inl rfl) ⟨(show some (Value.int (0 : Int32)) = some (Value.int (own_law q0)) from congrArg (fun z => some (Value.int z)) (by unfold own_law; rw [if_pos b66, if_pos b102, if_pos b139, if_pos b185])), Nn65⟩
      · refine ow_aload C X65 at_142 rfl rfl (pc' := 144) rfl ?_
        refine ow_aload C X65 at_144 rfl rfl (pc' := 146) rfl ?_
        refine ow_iload C X65 at_146 rfl (pc' := 148) rfl ?_
        refine ow_aload C X65 at_148 rfl rfl (pc' := 150) rfl ?_
        refine ow_callV C X65 rfl (hw _ (List.mem_of_getElem? (i := 120) rfl)) (hw _ (List.mem_of_getElem? (i := 121) rfl)) (hw _ (List.mem_of_getElem? (i := 123) rfl)) rfl (hw _ (List.mem_of_getElem? (i := 122) rfl)) (hw _ (List.mem_of_getElem? (i := 2) rfl)) (hw _ (List.mem_of_getElem? (i := 124) rfl)) (by decide) E65_1 (rm_offA l Z a0 hw a58 s64 a61 q5 T65.heap n0 Ge58 E65_1 F65_4 F65_5 F65_3) pd_8 rfl (argsL := [(.ref s64), (.int q5), (.ref a61)]) (rest := []) rfl rfl at_150 (Nat.le_of_ble_eq_true rfl) (Nat.le_of_ble_eq_true rfl) (Nat.le_of_ble_eq_true rfl) (Nat.le_of_ble_eq_true rfl) (pc' := 153) rfl (fun T67 v67 L67 X67 Q67 => ?_)
        obtain ⟨rfl, N67, K67, E67, Fr67, sn67, zn67, ws67, Fi67, Fp67⟩ := Q67
        have S67_s64 := S65_s64.keep E65_1 (by decide) (hw _ (List.mem_of_getElem? (i := 1) rfl)) K67
        have S67_s65 := S65.keep E65_1 (by decide) (hw _ (List.mem_of_getElem? (i := 1) rfl)) K67
        have S67_n : OwStr Z T67.heap sn67 := by rw [ws67]; exact S67_s64
        have Nn67 := Fr.app Nn65 N67
        have O67 := O65.keep K67 (own_all1 Ge58)
        have Y67 := Nat.le_trans Y65 K67.1
        show OwF p e below _ T67 (mkF m 153 #[.val (.int q0), .val (.int q1), .val (.int q2), .val (.int q3), .val (.int q4), .val (.int q5), .val (.int (q0 &&& (3 : Int32))), .val (.ref a58), .val (.int (1 : Int32)), .val (.ref a61), .val (.ref s64), .val (.ref s65)] [])
        refine ow_iload C X67 at_153 rfl (pc' := 155) rfl ?_
        refine ow_if_eq C X67 at_155 (pcT := 170) (pc' := 158) (by decide) (by decide) rfl (fun bq => absurd bq (by decide)) (fun _ => ?_)
        refine ow_aload C X67 at_158 rfl rfl (pc' := 160) rfl ?_
        refine ow_callV C X67 rfl (hw _ (List.mem_of_getElem? (i := 9) rfl)) (hw _ (List.mem_of_getElem? (i := 10) rfl)) (hw _ (List.mem_of_getElem? (i := 12) rfl)) rfl (hw _ (List.mem_of_getElem? (i := 11) rfl)) (hw _ (List.mem_of_getElem? (i := 2) rfl)) (hw _ (List.mem_of_getElem? (i := 13) rfl)) (by decide) E67 (rm_fndR l Z a0 hw a61 a58 T67.heap Fr67) pd_0 rfl (argsL := []) (rest := []) rfl rfl at_160 (Nat.le_of_ble_eq_true rfl) (Nat.le_of_ble_eq_true rfl) (Nat.le_of_ble_eq_true rfl) (Nat.le_of_ble_eq_true rfl) (pc' := 163) rfl (fun T68 v68 L68 X68 Q68 => ?_)
        obtain ⟨rfl, rfl, Hc68⟩ := Q68
        rw [List.append_nil] at X68
        show OwF p e below _ T68 (mkF m 163 #[.val (.int q0), .val (.int q1), .val (.int q2), .val (.int q3), .val (.int q4), .val (.int q5), .val (.int (q0 &&& (3 : Int32))), .val (.ref a58), .val (.int (1 : Int32)), .val (.ref a61), .val (.ref s64), .val (.ref s65)] [(.int (1 : Int32))])
        refine ow_if_eq C X68 at_163 (pcT := 170) (pc' := 166) (by decide) (by decide) rfl (fun bq => absurd bq (by decide)) (fun _ => ?_)
        refine ow_iconst (1 : Int32) C X68 at_166 (by decide) (pc' := 167) rfl ?_
        refine ow_goto C X68 at_167 (pcT := 171) (by decide) (by decide) ?_
        refine ow_istore C X68 at_171 (Ls' := #[.val (.int q0), .val (.int q1), .val (.int q2), .val (.int q3), .val (.int q4), .val (.int q5), .val (.int (q0 &&& (3 : Int32))), .val (.ref a58), .val (.int (1 : Int32)), .val (.ref a61), .val (.ref s64), .val (.ref s65)]) rfl (pc' := 173) rfl ?_
        refine ow_iload C X68 at_173 rfl (pc' := 175) rfl ?_
        refine ow_if_eq C X68 at_175 (pcT := 200) (pc' := 178) (by decide) (by decide) rfl (fun bq => absurd bq (by decide)) (fun _ => ?_)
        refine ow_aload C X68 at_178 rfl rfl (pc' := 180) rfl ?_
        refine ow_callV C X68 Hc68 (hw _ (List.mem_of_getElem? (i := 9) rfl)) (hw _ (List.mem_of_getElem? (i := 10) rfl)) (hw _ (List.mem_of_getElem? (i := 12) rfl)) rfl (hw _ (List.mem_of_getElem? (i := 11) rfl)) (hw _ (List.mem_of_getElem? (i := 2) rfl)) (hw _ (List.mem_of_getElem? (i := 13) rfl)) (by decide) E67 (rm_fndR l Z a0 hw a61 a58 T67.heap Fr67) pd_0 rfl (argsL := []) (rest := []) rfl rfl at_180 (Nat.le_of_ble_eq_true rfl) (Nat.le_of_ble_eq_true rfl) (Nat.le_of_ble_eq_true rfl) (Nat.le_of_ble_eq_true rfl) (pc' := 183) rfl (fun T69 v69 L69 X69 Q69 => ?_)
        obtain ⟨rfl, rfl, Hc69⟩ := Q69
        rw [List.append_nil] at X69
        show OwF p e below _ T69 (mkF m 183 #[.val (.int q0), .val (.int q1), .val (.int q2), .val (.int q3), .val (.int q4), .val (.int q5), .val (.int (q0 &&& (3 : Int32))), .val (.ref a58), .val (.int (1 : Int32)), .val (.ref a61), .val (.ref s64), .val (.ref s65)] [(.int (1 : Int32))])
        refine ow_iload C X69 at_183 rfl (pc' := 185) rfl ?_
        refine ow_if_le C X69 at_185 (pcT := 192) (pc' := 188) (by decide) (by decide) rfl (fun b185 => ?_) (fun b185 => ?_)
        · refine ow_iconst (0 : Int32) C X69 at_192 (by decide) (pc' := 193) rfl ?_
          refine ow_icmp_ne C X69 at_193 (pcT := 200) (pc' := 196) (by decide) (by decide) rfl (fun _ => ?_) (fun bq => absurd bq (by decide))
          refine ow_iconst (0 : Int32) C X69 at_200 (by decide) (pc' := 201) rfl ?_
          exact ow_retZW (s := s) (vm0 := T63.vm) C hS X69 (Nat.le_trans Y67 (Nat.le_of_eq (congrArg Array.size Hc69.symm))) at_201 (Nat.le_of_ble_eq_true rfl) (Nat.le_of_ble_eq_true rfl) (Or.inl rfl) ⟨(show some (Value.int (0 : Int32)) = some (Value.int (own_law q0)) from congrArg (fun z => some (Value.int z)) (by unfold own_law; rw [if_pos b66, if_pos b102, if_neg b139, if_neg b185])), Nn67⟩
        · refine ow_iconst (1 : Int32) C X69 at_188 (by decide) (pc' := 189) rfl ?_
          refine ow_goto C X69 at_189 (pcT := 193) (by decide) (by decide) ?_
          refine ow_icmp_ne C X69 at_193 (pcT := 200) (pc' := 196) (by decide) (by decide) rfl (fun bq => absurd (by decide) bq) (fun _ => ?_)
          refine ow_iconst (1 : Int32) C X69 at_196 (by decide) (pc' := 197) rfl ?_
          refine ow_goto C X69 at_197 (pcT := 201) (by decide) (by decide) ?_
          exact ow_retZW (s := s) (vm0 := T63.vm) C hS X69 (Nat.le_trans Y67 (Nat.le_of_eq (congrArg Array.size Hc69.symm))) at_201 (Nat.le_of_ble_eq_true rfl) (Nat.le_of_ble_eq_true rfl) (Or.inr rfl) ⟨(show some (Value.int (1 : Int32)) = some (Value.int (own_law q0)) from congrArg (fun z => some (Value.int z)) (by unfold own_law; rw [if_pos b66, if_pos b102, if_neg b139, if_pos b185])), Nn67⟩
    · refine ow_aload C X65 at_105 rfl rfl (pc' := 107) rfl ?_
      refine ow_aload C X65 at_107 rfl rfl (pc' := 109) rfl ?_
      refine ow_iload C X65 at_109 rfl (pc' := 111) rfl ?_
      refine ow_aload C X65 at_111 rfl rfl (pc' := 113) rfl ?_
      refine ow_callV C X65 rfl (hw _ (List.mem_of_getElem? (i := 120) rfl)) (hw _ (List.mem_of_getElem? (i := 121) rfl)) (hw _ (List.mem_of_getElem? (i := 123) rfl)) rfl (hw _ (List.mem_of_getElem? (i := 122) rfl)) (hw _ (List.mem_of_getElem? (i := 2) rfl)) (hw _ (List.mem_of_getElem? (i := 124) rfl)) (by decide) E65_1 (rm_offA l Z a0 hw a58 s65 a61 q4 T65.heap n0 Ge58 E65_1 F65_4 F65_5 F65_3) pd_8 rfl (argsL := [(.ref s65), (.int q4), (.ref a61)]) (rest := []) rfl rfl at_113 (Nat.le_of_ble_eq_true rfl) (Nat.le_of_ble_eq_true rfl) (Nat.le_of_ble_eq_true rfl) (Nat.le_of_ble_eq_true rfl) (pc' := 116) rfl (fun T70 v70 L70 X70 Q70 => ?_)
      obtain ⟨rfl, N70, K70, E70, Fr70, sn70, zn70, ws70, Fi70, Fp70⟩ := Q70
      have S70_s64 := S65_s64.keep E65_1 (by decide) (hw _ (List.mem_of_getElem? (i := 1) rfl)) K70
      have S70_s65 := S65.keep E65_1 (by decide) (hw _ (List.mem_of_getElem? (i := 1) rfl)) K70
      have S70_n : OwStr Z T70.heap sn70 := by rw [ws70]; exact S70_s65
      have Nn70 := Fr.app Nn65 N70
      have O70 := O65.keep K70 (own_all1 Ge58)
      have Y70 := Nat.le_trans Y65 K70.1
      show OwF p e below _ T70 (mkF m 116 #[.val (.int q0), .val (.int q1), .val (.int q2), .val (.int q3), .val (.int q4), .val (.int q5), .val (.int (q0 &&& (3 : Int32))), .val (.ref a58), .val (.int (1 : Int32)), .val (.ref a61), .val (.ref s64), .val (.ref s65)] [])
      refine ow_iload C X70 at_116 rfl (pc' := 118) rfl ?_
      refine ow_if_eq C X70 at_118 (pcT := 133) (pc' := 121) (by decide) (by decide) rfl (fun bq => absurd bq (by decide)) (fun _ => ?_)
      refine ow_aload C X70 at_121 rfl rfl (pc' := 123) rfl ?_
      refine ow_callV C X70 rfl (hw _ (List.mem_of_getElem? (i := 9) rfl)) (hw _ (List.mem_of_getElem? (i := 10) rfl)) (hw _ (List.mem_of_getElem? (i := 12) rfl)) rfl (hw _ (List.mem_of_getElem? (i := 11) rfl)) (hw _ (List.mem_of_getElem? (i := 2) rfl)) (hw _ (List.mem_of_getElem? (i := 13) rfl)) (by decide) E70 (rm_fndR l Z a0 hw a61 a58 T70.heap Fr70) pd_0 rfl (argsL := []) (rest := []) rfl rfl at_123 (Nat.le_of_ble_eq_true rfl) (Nat.le_of_ble_eq_true rfl) (Nat.le_of_ble_eq_true rfl) (Nat.le_of_ble_eq_true rfl) (pc' := 126) rfl (fun T71 v71 L71 X71 Q71 => ?_)
      obtain ⟨rfl, rfl, Hc71⟩ := Q71
      rw [List.append_nil] at X71
      show OwF p e below _ T71 (mkF m 126 #[.val (.int q0), .val (.int q1), .val (.int q2), .val (.int q3), .val (.int q4), .val (.int q5), .val (.int (q0 &&& (3 : Int32))), .val (.ref a58), .val (.int (1 : Int32)), .val (.ref a61), .val (.ref s64), .val (.ref s65)] [(.int (1 : Int32))])
      refine ow_if_eq C X71 at_126 (pcT := 133) (pc' := 129) (by decide) (by decide) rfl (fun bq => absurd bq (by decide)) (fun _ => ?_)
      refine ow_iconst (1 : Int32) C X71 at_129 (by decide) (pc' := 130) rfl ?_
      refine ow_goto C X71 at_130 (pcT := 134) (by decide) (by decide) ?_
      refine ow_istore C X71 at_134 (Ls' := #[.val (.int q0), .val (.int q1), .val (.int q2), .val (.int q3), .val (.int q4), .val (.int q5), .val (.int (q0 &&& (3 : Int32))), .val (.ref a58), .val (.int (1 : Int32)), .val (.ref a61), .val (.ref s64), .val (.ref s65)]) rfl (pc' := 136) rfl ?_
      refine ow_iload C X71 at_136 rfl (pc' := 138) rfl ?_
      refine ow_iconst (3 : Int32) C X71 at_138 (by decide) (pc' := 139) rfl ?_
      refine ow_icmp_lt C X71 at_139 (pcT := 173) (pc' := 142) (by decide) (by decide) rfl (fun b139 => ?_) (fun b139 => ?_)
      · refine ow_iload C X71 at_173 rfl (pc' := 175) rfl ?_
        refine ow_if_eq C X71 at_175 (pcT := 200) (pc' := 178) (by decide) (by decide) rfl (fun bq => absurd bq (by decide)) (fun _ => ?_)
        refine ow_aload C X71 at_178 rfl rfl (pc' := 180) rfl ?_
        refine ow_callV C X71 Hc71 (hw _ (List.mem_of_getElem? (i := 9) rfl)) (hw _ (List.mem_of_getElem? (i := 10) rfl)) (hw _ (List.mem_of_getElem? (i := 12) rfl)) rfl (hw _ (List.mem_of_getElem? (i := 11) rfl)) (hw _ (List.mem_of_getElem? (i := 2) rfl)) (hw _ (List.mem_of_getElem? (i := 13) rfl)) (by decide) E70 (rm_fndR l Z a0 hw a61 a58 T70.heap Fr70) pd_0 rfl (argsL := []) (rest := []) rfl rfl at_180 (Nat.le_of_ble_eq_true rfl) (Nat.le_of_ble_eq_true rfl) (Nat.le_of_ble_eq_true rfl) (Nat.le_of_ble_eq_true rfl) (pc' := 183) rfl (fun T72 v72 L72 X72 Q72 => ?_)
        obtain ⟨rfl, rfl, Hc72⟩ := Q72
        rw [List.append_nil] at X72
        show OwF p e below _ T72 (mkF m 183 #[.val (.int q0), .val (.int q1), .val (.int q2), .val (.int q3), .val (.int q4), .val (.int q5), .val (.int (q0 &&& (3 : Int32))), .val (.ref a58), .val (.int (1 : Int32)), .val (.ref a61), .val (.ref s64), .val (.ref s65)] [(.int (1 : Int32))])
        refine ow_iload C X72 at_183 rfl (pc' := 185) rfl ?_
        refine ow_if_le C X72 at_185 (pcT := 192) (pc' := 188) (by decide) (by decide) rfl (fun b185 => ?_) (fun b185 => ?_)
        · refine ow_iconst (0 : Int32) C X72 at_192 (by decide) (pc' := 193) rfl ?_
          refine ow_icmp_ne C X72 at_193 (pcT := 200) (pc' := 196) (by decide) (by decide) rfl (fun _ => ?_) (fun bq => absurd bq (by decide))
          refine ow_iconst (0 : Int32) C X72 at_200 (by decide) (pc' := 201) rfl ?_
          exact ow_retZW (s := s) (vm0 := T63.vm) C hS X72 (Nat.le_trans Y70 (Nat.le_of_eq (congrArg Array.size Hc72.symm))) at_201 (Nat.le_of_ble_eq_true rfl) (Nat.le_of_ble_eq_true rfl) (Or.inl rfl) ⟨(show some (Value.int (0 : Int32)) = some (Value.int (own_law q0)) from congrArg (fun z => some (Value.int z)) (by unfold own_law; rw [if_pos b66, if_neg b102, if_pos b139, if_neg b185])), Nn70⟩
        · refine ow_iconst (1 : Int32) C X72 at_188 (by decide) (pc' := 189) rfl ?_
          refine ow_goto C X72 at_189 (pcT := 193) (by decide) (by decide) ?_
          refine ow_icmp_ne C X72 at_193 (pcT := 200) (pc' := 196) (by decide) (by decide) rfl (fun bq => absurd (by decide) bq) (fun _ => ?_)
          refine ow_iconst (1 : Int32) C X72 at_196 (by decide) (pc' := 197) rfl ?_
          refine ow_goto C X72 at_197 (pcT := 201) (by decide) (by decide) ?_
          exact ow_retZW (s := s) (vm0 := T63.vm) C hS X72 (Nat.le_trans Y70 (Nat.le_of_eq (congrArg Array.size Hc72.symm))) at_201 (Nat.le_of_ble_eq_true rfl) (Nat.le_of_ble_eq_true rfl) (Or.inr rfl) ⟨(show some (Value.int (1 : Int32)) = some (Value.int (own_law q0)) from congrArg (fun z => some (Value.int z)) (by unfold own_law; rw [if_pos b66, if_neg b102, if_pos b139, if_pos b185])), Nn70⟩
      · refine ow_aload C X71 at_142 rfl rfl (pc' := 144) rfl ?_
        refine ow_aload C X71 at_144 rfl rfl (pc' := 146) rfl ?_
        refine ow_iload C X71 at_146 rfl (pc' := 148) rfl ?_
        refine ow_aload C X71 at_148 rfl rfl (pc' := 150) rfl ?_
        refine ow_callV C X71 Hc71 (hw _ (List.mem_of_getElem? (i := 120) rfl)) (hw _ (List.mem_of_getElem? (i := 121) rfl)) (hw _ (List.mem_of_getElem? (i := 123) rfl)) rfl (hw _ (List.mem_of_getElem? (i := 122) rfl)) (hw _ (List.mem_of_getElem? (i := 2) rfl)) (hw _ (List.mem_of_getElem? (i := 124) rfl)) (by decide) E70 (rm_offB l Z a0 hw a58 s64 a61 q5 T70.heap n0 Ge58 E70 sn70 zn70 Fi70 Fp70 Fr70 ck hck (SC.ext O70.2) S70_s64 S70_n) pd_8 rfl (argsL := [(.ref s64), (.int q5), (.ref a61)]) (rest := []) rfl rfl at_150 (Nat.le_of_ble_eq_true rfl) (Nat.le_of_ble_eq_true rfl) (Nat.le_of_ble_eq_true rfl) (Nat.le_of_ble_eq_true rfl) (pc' := 153) rfl (fun T73 v73 L73 X73 Q73 => ?_)
        obtain ⟨rfl, N73, K73, E73, Fr73, sn73, zn73, ws73, Fi73, Fp73⟩ := Q73
        have S73_s64 := S70_s64.keep E70 (by decide) (hw _ (List.mem_of_getElem? (i := 1) rfl)) K73
        have S73_s65 := S70_s65.keep E70 (by decide) (hw _ (List.mem_of_getElem? (i := 1) rfl)) K73
        have S73_sn70 := S70_n.keep E70 (by decide) (hw _ (List.mem_of_getElem? (i := 1) rfl)) K73
        have S73_n : OwStr Z T73.heap sn73 := ws73.elim (fun w => by rw [w]; exact S73_s64) (fun w => by rw [w]; exact S73_sn70)
        have Nn73 := Fr.app Nn70 N73
        have O73 := O70.keep K73 (own_all1 Ge58)
        have Y73 := Nat.le_trans Y70 K73.1
        show OwF p e below _ T73 (mkF m 153 #[.val (.int q0), .val (.int q1), .val (.int q2), .val (.int q3), .val (.int q4), .val (.int q5), .val (.int (q0 &&& (3 : Int32))), .val (.ref a58), .val (.int (1 : Int32)), .val (.ref a61), .val (.ref s64), .val (.ref s65)] [])
        refine ow_iload C X73 at_153 rfl (pc' := 155) rfl ?_
        refine ow_if_eq C X73 at_155 (pcT := 170) (pc' := 158) (by decide) (by decide) rfl (fun bq => absurd bq (by decide)) (fun _ => ?_)
        refine ow_aload C X73 at_158 rfl rfl (pc' := 160) rfl ?_
        refine ow_callV C X73 rfl (hw _ (List.mem_of_getElem? (i := 9) rfl)) (hw _ (List.mem_of_getElem? (i := 10) rfl)) (hw _ (List.mem_of_getElem? (i := 12) rfl)) rfl (hw _ (List.mem_of_getElem? (i := 11) rfl)) (hw _ (List.mem_of_getElem? (i := 2) rfl)) (hw _ (List.mem_of_getElem? (i := 13) rfl)) (by decide) E73 (rm_fndR l Z a0 hw a61 a58 T73.heap Fr73) pd_0 rfl (argsL := []) (rest := []) rfl rfl at_160 (Nat.le_of_ble_eq_true rfl) (Nat.le_of_ble_eq_true rfl) (Nat.le_of_ble_eq_true rfl) (Nat.le_of_ble_eq_true rfl) (pc' := 163) rfl (fun T74 v74 L74 X74 Q74 => ?_)
        obtain ⟨rfl, rfl, Hc74⟩ := Q74
        rw [List.append_nil] at X74
        show OwF p e below _ T74 (mkF m 163 #[.val (.int q0), .val (.int q1), .val (.int q2), .val (.int q3), .val (.int q4), .val (.int q5), .val (.int (q0 &&& (3 : Int32))), .val (.ref a58), .val (.int (1 : Int32)), .val (.ref a61), .val (.ref s64), .val (.ref s65)] [(.int (1 : Int32))])
        refine ow_if_eq C X74 at_163 (pcT := 170) (pc' := 166) (by decide) (by decide) rfl (fun bq => absurd bq (by decide)) (fun _ => ?_)
        refine ow_iconst (1 : Int32) C X74 at_166 (by decide) (pc' := 167) rfl ?_
        refine ow_goto C X74 at_167 (pcT := 171) (by decide) (by decide) ?_
        refine ow_istore C X74 at_171 (Ls' := #[.val (.int q0), .val (.int q1), .val (.int q2), .val (.int q3), .val (.int q4), .val (.int q5), .val (.int (q0 &&& (3 : Int32))), .val (.ref a58), .val (.int (1 : Int32)), .val (.ref a61), .val (.ref s64), .val (.ref s65)]) rfl (pc' := 173) rfl ?_
        refine ow_iload C X74 at_173 rfl (pc' := 175) rfl ?_
        refine ow_if_eq C X74 at_175 (pcT := 200) (pc' := 178) (by decide) (by decide) rfl (fun bq => absurd bq (by decide)) (fun _ => ?_)
        refine ow_aload C X74 at_178 rfl rfl (pc' := 180) rfl ?_
        refine ow_callV C X74 Hc74 (hw _ (List.mem_of_getElem? (i := 9) rfl)) (hw _ (List.mem_of_getElem? (i := 10) rfl)) (hw _ (List.mem_of_getElem? (i := 12) rfl)) rfl (hw _ (List.mem_of_getElem? (i := 11) rfl)) (hw _ (List.mem_of_getElem? (i := 2) rfl)) (hw _ (List.mem_of_getElem? (i := 13) rfl)) (by decide) E73 (rm_fndR l Z a0 hw a61 a58 T73.heap Fr73) pd_0 rfl (argsL := []) (rest := []) rfl rfl at_180 (Nat.le_of_ble_eq_true rfl) (Nat.le_of_ble_eq_true rfl) (Nat.le_of_ble_eq_true rfl) (Nat.le_of_ble_eq_true rfl) (pc' := 183) rfl (fun T75 v75 L75 X75 Q75 => ?_)
        obtain ⟨rfl, rfl, Hc75⟩ := Q75
        rw [List.append_nil] at X75
        show OwF p e below _ T75 (mkF m 183 #[.val (.int q0), .val (.int q1), .val (.int q2), .val (.int q3), .val (.int q4), .val (.int q5), .val (.int (q0 &&& (3 : Int32))), .val (.ref a58), .val (.int (1 : Int32)), .val (.ref a61), .val (.ref s64), .val (.ref s65)] [(.int (1 : Int32))])
        refine ow_iload C X75 at_183 rfl (pc' := 185) rfl ?_
        refine ow_if_le C X75 at_185 (pcT := 192) (pc' := 188) (by decide) (by decide) rfl (fun b185 => ?_) (fun b185 => ?_)
        · refine ow_iconst (0 : Int32) C X75 at_192 (by decide) (pc' := 193) rfl ?_
          refine ow_icmp_ne C X75 at_193 (pcT := 200) (pc' := 196) (by decide) (by decide) rfl (fun _ => ?_) (fun bq => absurd bq (by decide))
          refine ow_iconst (0 : Int32) C X75 at_200 (by decide) (pc' := 201) rfl ?_
          exact ow_retZW (s := s) (vm0 := T63.vm) C hS X75 (Nat.le_trans Y73 (Nat.le_of_eq (congrArg Array.size Hc75.symm))) at_201 (Nat.le_of_ble_eq_true rfl) (Nat.le_of_ble_eq_true rfl) (Or.inl rfl) ⟨(show some (Value.int (0 : Int32)) = some (Value.int (own_law q0)) from congrArg (fun z => some (Value.int z)) (by unfold own_law; rw [if_pos b66, if_neg b102, if_neg b139, if_neg b185])), Nn73⟩
        · refine ow_iconst (1 : Int32) C X75 at_188 (by decide) (pc' := 189) rfl ?_
          refine ow_goto C X75 at_189 (pcT := 193) (by decide) (by decide) ?_
          refine ow_icmp_ne C X75 at_193 (pcT := 200) (pc' := 196) (by decide) (by decide) rfl (fun bq => absurd (by decide) bq) (fun _ => ?_)
          refine ow_iconst (1 : Int32) C X75 at_196 (by decide) (pc' := 197) rfl ?_
          refine ow_goto C X75 at_197 (pcT := 201) (by decide) (by decide) ?_
          exact ow_retZW (s := s) (vm0 := T63.vm) C hS X75 (Nat.le_trans Y73 (Nat.le_of_eq (congrArg Array.size Hc75.symm))) at_201 (Nat.le_of_ble_eq_true rfl) (Nat.le_of_ble_eq_true rfl) (Or.inr rfl) ⟨(show some (Value.int (1 : Int32)) = some (Value.int (own_law q0)) from congrArg (fun z => some (Value.int z)) (by unfold own_law; rw [if_pos b66, if_neg b102, if_neg b139, if_pos b185])), Nn73⟩
  · refine ow_aload C X65 at_69 rfl rfl (pc' := 71) rfl ?_
    refine ow_aload C X65 at_71 rfl rfl (pc' := 73) rfl ?_
    refine ow_iloadN C X65 at_73 rfl (pc' := 74) rfl ?_
    refine ow_aload C X65 at_74 rfl rfl (pc' := 76) rfl ?_
    refine ow_callV C X65 rfl (hw _ (List.mem_of_getElem? (i := 120) rfl)) (hw _ (List.mem_of_getElem? (i := 121) rfl)) (hw _ (List.mem_of_getElem? (i := 123) rfl)) rfl (hw _ (List.mem_of_getElem? (i := 122) rfl)) (hw _ (List.mem_of_getElem? (i := 2) rfl)) (hw _ (List.mem_of_getElem? (i := 124) rfl)) (by decide) E65_1 (rm_offA l Z a0 hw a58 s64 a61 q2 T65.heap n0 Ge58 E65_1 F65_4 F65_5 F65_3) pd_8 rfl (argsL := [(.ref s64), (.int q2), (.ref a61)]) (rest := []) rfl rfl at_76 (Nat.le_of_ble_eq_true rfl) (Nat.le_of_ble_eq_true rfl) (Nat.le_of_ble_eq_true rfl) (Nat.le_of_ble_eq_true rfl) (pc' := 79) rfl (fun T76 v76 L76 X76 Q76 => ?_)
    obtain ⟨rfl, N76, K76, E76, Fr76, sn76, zn76, ws76, Fi76, Fp76⟩ := Q76
    have S76_s64 := S65_s64.keep E65_1 (by decide) (hw _ (List.mem_of_getElem? (i := 1) rfl)) K76
    have S76_s65 := S65.keep E65_1 (by decide) (hw _ (List.mem_of_getElem? (i := 1) rfl)) K76
    have S76_n : OwStr Z T76.heap sn76 := by rw [ws76]; exact S76_s64
    have Nn76 := Fr.app Nn65 N76
    have O76 := O65.keep K76 (own_all1 Ge58)
    have Y76 := Nat.le_trans Y65 K76.1
    show OwF p e below _ T76 (mkF m 79 #[.val (.int q0), .val (.int q1), .val (.int q2), .val (.int q3), .val (.int q4), .val (.int q5), .val (.int (q0 &&& (3 : Int32))), .val (.ref a58), .val (.int (1 : Int32)), .val (.ref a61), .val (.ref s64), .val (.ref s65)] [])
    refine ow_iload C X76 at_79 rfl (pc' := 81) rfl ?_
    refine ow_if_eq C X76 at_81 (pcT := 96) (pc' := 84) (by decide) (by decide) rfl (fun bq => absurd bq (by decide)) (fun _ => ?_)
    refine ow_aload C X76 at_84 rfl rfl (pc' := 86) rfl ?_
    refine ow_callV C X76 rfl (hw _ (List.mem_of_getElem? (i := 9) rfl)) (hw _ (List.mem_of_getElem? (i := 10) rfl)) (hw _ (List.mem_of_getElem? (i := 12) rfl)) rfl (hw _ (List.mem_of_getElem? (i := 11) rfl)) (hw _ (List.mem_of_getElem? (i := 2) rfl)) (hw _ (List.mem_of_getElem? (i := 13) rfl)) (by decide) E76 (rm_fndR l Z a0 hw a61 a58 T76.heap Fr76) pd_0 rfl (argsL := []) (rest := []) rfl rfl at_86 (Nat.le_of_ble_eq_true rfl) (Nat.le_of_ble_eq_true rfl) (Nat.le_of_ble_eq_true rfl) (Nat.le_of_ble_eq_true rfl) (pc' := 89) rfl (fun T77 v77 L77 X77 Q77 => ?_)
    obtain ⟨rfl, rfl, Hc77⟩ := Q77
    rw [List.append_nil] at X77
    show OwF p e below _ T77 (mkF m 89 #[.val (.int q0), .val (.int q1), .val (.int q2), .val (.int q3), .val (.int q4), .val (.int q5), .val (.int (q0 &&& (3 : Int32))), .val (.ref a58), .val (.int (1 : Int32)), .val (.ref a61), .val (.ref s64), .val (.ref s65)] [(.int (1 : Int32))])
    refine ow_if_eq C X77 at_89 (pcT := 96) (pc' := 92) (by decide) (by decide) rfl (fun bq => absurd bq (by decide)) (fun _ => ?_)
    refine ow_iconst (1 : Int32) C X77 at_92 (by decide) (pc' := 93) rfl ?_
    refine ow_goto C X77 at_93 (pcT := 97) (by decide) (by decide) ?_
    refine ow_istore C X77 at_97 (Ls' := #[.val (.int q0), .val (.int q1), .val (.int q2), .val (.int q3), .val (.int q4), .val (.int q5), .val (.int (q0 &&& (3 : Int32))), .val (.ref a58), .val (.int (1 : Int32)), .val (.ref a61), .val (.ref s64), .val (.ref s65)]) rfl (pc' := 99) rfl ?_
    refine ow_iload C X77 at_99 rfl (pc' := 101) rfl ?_
    refine ow_iconst (2 : Int32) C X77 at_101 (by decide) (pc' := 102) rfl ?_
    refine ow_icmp_lt C X77 at_102 (pcT := 136) (pc' := 105) (by decide) (by decide) rfl (fun b102 => ?_) (fun b102 => ?_)
    · refine ow_iload C X77 at_136 rfl (pc' := 138) rfl ?_
      refine ow_iconst (3 : Int32) C X77 at_138 (by decide) (pc' := 139) rfl ?_
      refine ow_icmp_lt C X77 at_139 (pcT := 173) (pc' := 142) (by decide) (by decide) rfl (fun b139 => ?_) (fun b139 => ?_)
      · refine ow_iload C X77 at_173 rfl (pc' := 175) rfl ?_
        refine ow_if_eq C X77 at_175 (pcT := 200) (pc' := 178) (by decide) (by decide) rfl (fun bq => absurd bq (by decide)) (fun _ => ?_)
        refine ow_aload C X77 at_178 rfl rfl (pc' := 180) rfl ?_
        refine ow_callV C X77 Hc77 (hw _ (List.mem_of_getElem? (i := 9) rfl)) (hw _ (List.mem_of_getElem? (i := 10) rfl)) (hw _ (List.mem_of_getElem? (i := 12) rfl)) rfl (hw _ (List.mem_of_getElem? (i := 11) rfl)) (hw _ (List.mem_of_getElem? (i := 2) rfl)) (hw _ (List.mem_of_getElem? (i := 13) rfl)) (by decide) E76 (rm_fndR l Z a0 hw a61 a58 T76.heap Fr76) pd_0 rfl (argsL := []) (rest := []) rfl rfl at_180 (Nat.le_of_ble_eq_true rfl) (Nat.le_of_ble_eq_true rfl) (Nat.le_of_ble_eq_true rfl) (Nat.le_of_ble_eq_true rfl) (pc' := 183) rfl (fun T78 v78 L78 X78 Q78 => ?_)
        obtain ⟨rfl, rfl, Hc78⟩ := Q78
        rw [List.append_nil] at X78
        show OwF p e below _ T78 (mkF m 183 #[.val (.int q0), .val (.int q1), .val (.int q2), .val (.int q3), .val (.int q4), .val (.int q5), .val (.int (q0 &&& (3 : Int32))), .val (.ref a58), .val (.int (1 : Int32)), .val (.ref a61), .val (.ref s64), .val (.ref s65)] [(.int (1 : Int32))])
        refine ow_iload C X78 at_183 rfl (pc' := 185) rfl ?_
        refine ow_if_le C X78 at_185 (pcT := 192) (pc' := 188) (by decide) (by decide) rfl (fun b185 => ?_) (fun b185 => ?_)
        · refine ow_iconst (0 : Int32) C X78 at_192 (by decide) (pc' := 193) rfl ?_
          refine ow_icmp_ne C X78 at_193 (pcT := 200) (pc' := 196) (by decide) (by decide) rfl (fun _ => ?_) (fun bq => absurd bq (by decide))
          refine ow_iconst (0 : Int32) C X78 at_200 (by decide) (pc' := 201) rfl ?_
          exact ow_retZW (s := s) (vm0 := T63.vm) C hS X78 (Nat.le_trans Y76 (Nat.le_of_eq (congrArg Array.size Hc78.symm))) at_201 (Nat.le_of_ble_eq_true rfl) (Nat.le_of_ble_eq_true rfl) (Or.inl rfl) ⟨(show some (Value.int (0 : Int32)) = some (Value.int (own_law q0)) from congrArg (fun z => some (Value.int z)) (by unfold own_law; rw [if_neg b66, if_pos b102, if_pos b139, if_neg b185])), Nn76⟩
        · refine ow_iconst (1 : Int32) C X78 at_188 (by decide) (pc' := 189) rfl ?_
          refine ow_goto C X78 at_189 (pcT := 193) (by decide) (by decide) ?_
          refine ow_icmp_ne C X78 at_193 (pcT := 200) (pc' := 196) (by decide) (by decide) rfl (fun bq => absurd (by decide) bq) (fun _ => ?_)
          refine ow_iconst (1 : Int32) C X78 at_196 (by decide) (pc' := 197) rfl ?_
          refine ow_goto C X78 at_197 (pcT := 201) (by decide) (by decide) ?_
          exact ow_retZW (s := s) (vm0 := T63.vm) C hS X78 (Nat.le_trans Y76 (Nat.le_of_eq (congrArg Array.size Hc78.symm))) at_201 (Nat.le_of_ble_eq_true rfl) (Nat.le_of_ble_eq_true rfl) (Or.inr rfl) ⟨(show some (Value.int (1 : Int32)) = some (Value.int (own_law q0)) from congrArg (fun z => some (Value.int z)) (by unfold own_law; rw [if_neg b66, if_pos b102, if_pos b139, if_pos b185])), Nn76⟩
      · refine ow_aload C X77 at_142 rfl rfl (pc' := 144) rfl ?_
        refine ow_aload C X77 at_144 rfl rfl (pc' := 146) rfl ?_
        refine ow_iload C X77 at_146 rfl (pc' := 148) rfl ?_
        refine ow_aload C X77 at_148 rfl rfl (pc' := 150) rfl ?_
        refine ow_callV C X77 Hc77 (hw _ (List.mem_of_getElem? (i := 120) rfl)) (hw _ (List.mem_of_getElem? (i := 121) rfl)) (hw _ (List.mem_of_getElem? (i := 123) rfl)) rfl (hw _ (List.mem_of_getElem? (i := 122) rfl)) (hw _ (List.mem_of_getElem? (i := 2) rfl)) (hw _ (List.mem_of_getElem? (i := 124) rfl)) (by decide) E76 (rm_offB l Z a0 hw a58 s64 a61 q5 T76.heap n0 Ge58 E76 sn76 zn76 Fi76 Fp76 Fr76 ck hck (SC.ext O76.2) S76_s64 S76_n) pd_8 rfl (argsL := [(.ref s64), (.int q5), (.ref a61)]) (rest := []) rfl rfl at_150 (Nat.le_of_ble_eq_true rfl) (Nat.le_of_ble_eq_true rfl) (Nat.le_of_ble_eq_true rfl) (Nat.le_of_ble_eq_true rfl) (pc' := 153) rfl (fun T79 v79 L79 X79 Q79 => ?_)
        obtain ⟨rfl, N79, K79, E79, Fr79, sn79, zn79, ws79, Fi79, Fp79⟩ := Q79
        have S79_s64 := S76_s64.keep E76 (by decide) (hw _ (List.mem_of_getElem? (i := 1) rfl)) K79
        have S79_s65 := S76_s65.keep E76 (by decide) (hw _ (List.mem_of_getElem? (i := 1) rfl)) K79
        have S79_sn76 := S76_n.keep E76 (by decide) (hw _ (List.mem_of_getElem? (i := 1) rfl)) K79
        have S79_n : OwStr Z T79.heap sn79 := ws79.elim (fun w => by rw [w]; exact S79_s64) (fun w => by rw [w]; exact S79_sn76)
        have Nn79 := Fr.app Nn76 N79
        have O79 := O76.keep K79 (own_all1 Ge58)
        have Y79 := Nat.le_trans Y76 K79.1
        show OwF p e below _ T79 (mkF m 153 #[.val (.int q0), .val (.int q1), .val (.int q2), .val (.int q3), .val (.int q4), .val (.int q5), .val (.int (q0 &&& (3 : Int32))), .val (.ref a58), .val (.int (1 : Int32)), .val (.ref a61), .val (.ref s64), .val (.ref s65)] [])
        refine ow_iload C X79 at_153 rfl (pc' := 155) rfl ?_
        refine ow_if_eq C X79 at_155 (pcT := 170) (pc' := 158) (by decide) (by decide) rfl (fun bq => absurd bq (by decide)) (fun _ => ?_)
        refine ow_aload C X79 at_158 rfl rfl (pc' := 160) rfl ?_
        refine ow_callV C X79 rfl (hw _ (List.mem_of_getElem? (i := 9) rfl)) (hw _ (List.mem_of_getElem? (i := 10) rfl)) (hw _ (List.mem_of_getElem? (i := 12) rfl)) rfl (hw _ (List.mem_of_getElem? (i := 11) rfl)) (hw _ (List.mem_of_getElem? (i := 2) rfl)) (hw _ (List.mem_of_getElem? (i := 13) rfl)) (by decide) E79 (rm_fndR l Z a0 hw a61 a58 T79.heap Fr79) pd_0 rfl (argsL := []) (rest := []) rfl rfl at_160 (Nat.le_of_ble_eq_true rfl) (Nat.le_of_ble_eq_true rfl) (Nat.le_of_ble_eq_true rfl) (Nat.le_of_ble_eq_true rfl) (pc' := 163) rfl (fun T80 v80 L80 X80 Q80 => ?_)
        obtain ⟨rfl, rfl, Hc80⟩ := Q80
        rw [List.append_nil] at X80
        show OwF p e below _ T80 (mkF m 163 #[.val (.int q0), .val (.int q1), .val (.int q2), .val (.int q3), .val (.int q4), .val (.int q5), .val (.int (q0 &&& (3 : Int32))), .val (.ref a58), .val (.int (1 : Int32)), .val (.ref a61), .val (.ref s64), .val (.ref s65)] [(.int (1 : Int32))])
        refine ow_if_eq C X80 at_163 (pcT := 170) (pc' := 166) (by decide) (by decide) rfl (fun bq => absurd bq (by decide)) (fun _ => ?_)
        refine ow_iconst (1 : Int32) C X80 at_166 (by decide) (pc' := 167) rfl ?_
        refine ow_goto C X80 at_167 (pcT := 171) (by decide) (by decide) ?_
        refine ow_istore C X80 at_171 (Ls' := #[.val (.int q0), .val (.int q1), .val (.int q2), .val (.int q3), .val (.int q4), .val (.int q5), .val (.int (q0 &&& (3 : Int32))), .val (.ref a58), .val (.int (1 : Int32)), .val (.ref a61), .val (.ref s64), .val (.ref s65)]) rfl (pc' := 173) rfl ?_
        refine ow_iload C X80 at_173 rfl (pc' := 175) rfl ?_
        refine ow_if_eq C X80 at_175 (pcT := 200) (pc' := 178) (by decide) (by decide) rfl (fun bq => absurd bq (by decide)) (fun _ => ?_)
        refine ow_aload C X80 at_178 rfl rfl (pc' := 180) rfl ?_
        refine ow_callV C X80 Hc80 (hw _ (List.mem_of_getElem? (i := 9) rfl)) (hw _ (List.mem_of_getElem? (i := 10) rfl)) (hw _ (List.mem_of_getElem? (i := 12) rfl)) rfl (hw _ (List.mem_of_getElem? (i := 11) rfl)) (hw _ (List.mem_of_getElem? (i := 2) rfl)) (hw _ (List.mem_of_getElem? (i := 13) rfl)) (by decide) E79 (rm_fndR l Z a0 hw a61 a58 T79.heap Fr79) pd_0 rfl (argsL := []) (rest := []) rfl rfl at_180 (Nat.le_of_ble_eq_true rfl) (Nat.le_of_ble_eq_true rfl) (Nat.le_of_ble_eq_true rfl) (Nat.le_of_ble_eq_true rfl) (pc' := 183) rfl (fun T81 v81 L81 X81 Q81 => ?_)
        obtain ⟨rfl, rfl, Hc81⟩ := Q81
        rw [List.append_nil] at X81
        show OwF p e below _ T81 (mkF m 183 #[.val (.int q0), .val (.int q1), .val (.int q2), .val (.int q3), .val (.int q4), .val (.int q5), .val (.int (q0 &&& (3 : Int32))), .val (.ref a58), .val (.int (1 : Int32)), .val (.ref a61), .val (.ref s64), .val (.ref s65)] [(.int (1 : Int32))])
        refine ow_iload C X81 at_183 rfl (pc' := 185) rfl ?_
        refine ow_if_le C X81 at_185 (pcT := 192) (pc' := 188) (by decide) (by decide) rfl (fun b185 => ?_) (fun b185 => ?_)
        · refine ow_iconst (0 : Int32) C X81 at_192 (by decide) (pc' := 193) rfl ?_
          refine ow_icmp_ne C X81 at_193 (pcT := 200) (pc' := 196) (by decide) (by decide) rfl (fun _ => ?_) (fun bq => absurd bq (by decide))
          refine ow_iconst (0 : Int32) C X81 at_200 (by decide) (pc' := 201) rfl ?_
          exact ow_retZW (s := s) (vm0 := T63.vm) C hS X81 (Nat.le_trans Y79 (Nat.le_of_eq (congrArg Array.size Hc81.symm))) at_201 (Nat.le_of_ble_eq_true rfl) (Nat.le_of_ble_eq_true rfl) (Or.inl rfl) ⟨(show some (Value.int (0 : Int32)) = some (Value.int (own_law q0)) from congrArg (fun z => some (Value.int z)) (by unfold own_law; rw [if_neg b66, if_pos b102, if_neg b139, if_neg b185])), Nn79⟩
        · refine ow_iconst (1 : Int32) C X81 at_188 (by decide) (pc' := 189) rfl ?_
          refine ow_goto C X81 at_189 (pcT := 193) (by decide) (by decide) ?_
          refine ow_icmp_ne C X81 at_193 (pcT := 200) (pc' := 196) (by decide) (by decide) rfl (fun bq => absurd (by decide) bq) (fun _ => ?_)
          refine ow_iconst (1 : Int32) C X81 at_196 (by decide) (pc' := 197) rfl ?_
          refine ow_goto C X81 at_197 (pcT := 201) (by decide) (by decide) ?_
          exact ow_retZW (s := s) (vm0 := T63.vm) C hS X81 (Nat.le_trans Y79 (Nat.le_of_eq (congrArg Array.size Hc81.symm))) at_201 (Nat.le_of_ble_eq_true rfl) (Nat.le_of_ble_eq_true rfl) (Or.inr rfl) ⟨(show some (Value.int (1 : Int32)) = some (Value.int (own_law q0)) from congrArg (fun z => some (Value.int z)) (by unfold own_law; rw [if_neg b66, if_pos b102, if_neg b139, if_pos b185])), Nn79⟩
    · refine ow_aload C X77 at_105 rfl rfl (pc' := 107) rfl ?_
      refine ow_aload C X77 at_107 rfl rfl (pc' := 109) rfl ?_
      refine ow_iload C X77 at_109 rfl (pc' := 111) rfl ?_
      refine ow_aload C X77 at_111 rfl rfl (pc' := 113) rfl ?_
      refine ow_callV C X77 Hc77 (hw _ (List.mem_of_getElem? (i := 120) rfl)) (hw _ (List.mem_of_getElem? (i := 121) rfl)) (hw _ (List.mem_of_getElem? (i := 123) rfl)) rfl (hw _ (List.mem_of_getElem? (i := 122) rfl)) (hw _ (List.mem_of_getElem? (i := 2) rfl)) (hw _ (List.mem_of_getElem? (i := 124) rfl)) (by decide) E76 (rm_offB l Z a0 hw a58 s65 a61 q4 T76.heap n0 Ge58 E76 sn76 zn76 Fi76 Fp76 Fr76 ck hck (SC.ext O76.2) S76_s65 S76_n) pd_8 rfl (argsL := [(.ref s65), (.int q4), (.ref a61)]) (rest := []) rfl rfl at_113 (Nat.le_of_ble_eq_true rfl) (Nat.le_of_ble_eq_true rfl) (Nat.le_of_ble_eq_true rfl) (Nat.le_of_ble_eq_true rfl) (pc' := 116) rfl (fun T82 v82 L82 X82 Q82 => ?_)
      obtain ⟨rfl, N82, K82, E82, Fr82, sn82, zn82, ws82, Fi82, Fp82⟩ := Q82
      have S82_s64 := S76_s64.keep E76 (by decide) (hw _ (List.mem_of_getElem? (i := 1) rfl)) K82
      have S82_s65 := S76_s65.keep E76 (by decide) (hw _ (List.mem_of_getElem? (i := 1) rfl)) K82
      have S82_sn76 := S76_n.keep E76 (by decide) (hw _ (List.mem_of_getElem? (i := 1) rfl)) K82
      have S82_n : OwStr Z T82.heap sn82 := ws82.elim (fun w => by rw [w]; exact S82_s65) (fun w => by rw [w]; exact S82_sn76)
      have Nn82 := Fr.app Nn76 N82
      have O82 := O76.keep K82 (own_all1 Ge58)
      have Y82 := Nat.le_trans Y76 K82.1
      show OwF p e below _ T82 (mkF m 116 #[.val (.int q0), .val (.int q1), .val (.int q2), .val (.int q3), .val (.int q4), .val (.int q5), .val (.int (q0 &&& (3 : Int32))), .val (.ref a58), .val (.int (1 : Int32)), .val (.ref a61), .val (.ref s64), .val (.ref s65)] [])
      refine ow_iload C X82 at_116 rfl (pc' := 118) rfl ?_
      refine ow_if_eq C X82 at_118 (pcT := 133) (pc' := 121) (by decide) (by decide) rfl (fun bq => absurd bq (by decide)) (fun _ => ?_)
      refine ow_aload C X82 at_121 rfl rfl (pc' := 123) rfl ?_
      refine ow_callV C X82 rfl (hw _ (List.mem_of_getElem? (i := 9) rfl)) (hw _ (List.mem_of_getElem? (i := 10) rfl)) (hw _ (List.mem_of_getElem? (i := 12) rfl)) rfl (hw _ (List.mem_of_getElem? (i := 11) rfl)) (hw _ (List.mem_of_getElem? (i := 2) rfl)) (hw _ (List.mem_of_getElem? (i := 13) rfl)) (by decide) E82 (rm_fndR l Z a0 hw a61 a58 T82.heap Fr82) pd_0 rfl (argsL := []) (rest := []) rfl rfl at_123 (Nat.le_of_ble_eq_true rfl) (Nat.le_of_ble_eq_true rfl) (Nat.le_of_ble_eq_true rfl) (Nat.le_of_ble_eq_true rfl) (pc' := 126) rfl (fun T83 v83 L83 X83 Q83 => ?_)
      obtain ⟨rfl, rfl, Hc83⟩ := Q83
      rw [List.append_nil] at X83
      show OwF p e below _ T83 (mkF m 126 #[.val (.int q0), .val (.int q1), .val (.int q2), .val (.int q3), .val (.int q4), .val (.int q5), .val (.int (q0 &&& (3 : Int32))), .val (.ref a58), .val (.int (1 : Int32)), .val (.ref a61), .val (.ref s64), .val (.ref s65)] [(.int (1 : Int32))])
      refine ow_if_eq C X83 at_126 (pcT := 133) (pc' := 129) (by decide) (by decide) rfl (fun bq => absurd bq (by decide)) (fun _ => ?_)
      refine ow_iconst (1 : Int32) C X83 at_129 (by decide) (pc' := 130) rfl ?_
      refine ow_goto C X83 at_130 (pcT := 134) (by decide) (by decide) ?_
      refine ow_istore C X83 at_134 (Ls' := #[.val (.int q0), .val (.int q1), .val (.int q2), .val (.int q3), .val (.int q4), .val (.int q5), .val (.int (q0 &&& (3 : Int32))), .val (.ref a58), .val (.int (1 : Int32)), .val (.ref a61), .val (.ref s64), .val (.ref s65)]) rfl (pc' := 136) rfl ?_
      refine ow_iload C X83 at_136 rfl (pc' := 138) rfl ?_
      refine ow_iconst (3 : Int32) C X83 at_138 (by decide) (pc' := 139) rfl ?_
      refine ow_icmp_lt C X83 at_139 (pcT := 173) (pc' := 142) (by decide) (by decide) rfl (fun b139 => ?_) (fun b139 => ?_)
      · refine ow_iload C X83 at_173 rfl (pc' := 175) rfl ?_
        refine ow_if_eq C X83 at_175 (pcT := 200) (pc' := 178) (by decide) (by decide) rfl (fun bq => absurd bq (by decide)) (fun _ => ?_)
        refine ow_aload C X83 at_178 rfl rfl (pc' := 180) rfl ?_
        refine ow_callV C X83 Hc83 (hw _ (List.mem_of_getElem? (i := 9) rfl)) (hw _ (List.mem_of_getElem? (i := 10) rfl)) (hw _ (List.mem_of_getElem? (i := 12) rfl)) rfl (hw _ (List.mem_of_getElem? (i := 11) rfl)) (hw _ (List.mem_of_getElem? (i := 2) rfl)) (hw _ (List.mem_of_getElem? (i := 13) rfl)) (by decide) E82 (rm_fndR l Z a0 hw a61 a58 T82.heap Fr82) pd_0 rfl (argsL := []) (rest := []) rfl rfl at_180 (Nat.le_of_ble_eq_true rfl) (Nat.le_of_ble_eq_true rfl) (Nat.le_of_ble_eq_true rfl) (Nat.le_of_ble_eq_true rfl) (pc' := 183) rfl (fun T84 v84 L84 X84 Q84 => ?_)
        obtain ⟨rfl, rfl, Hc84⟩ := Q84
        rw [List.append_nil] at X84
        show OwF p e below _ T84 (mkF m 183 #[.val (.int q0), .val (.int q1), .val (.int q2), .val (.int q3), .val (.int q4), .val (.int q5), .val (.int (q0 &&& (3 : Int32))), .val (.ref a58), .val (.int (1 : Int32)), .val (.ref a61), .val (.ref s64), .val (.ref s65)] [(.int (1 : Int32))])
        refine ow_iload C X84 at_183 rfl (pc' := 185) rfl ?_
        refine ow_if_le C X84 at_185 (pcT := 192) (pc' := 188) (by decide) (by decide) rfl (fun b185 => ?_) (fun b185 => ?_)
        · refine ow_iconst (0 : Int32) C X84 at_192 (by decide) (pc' := 193) rfl ?_
          refine ow_icmp_ne C X84 at_193 (pcT := 200) (pc' := 196) (by decide) (by decide) rfl (fun _ => ?_) (fun bq => absurd bq (by decide))
          refine ow_iconst (0 : Int32) C X84 at_200 (by decide) (pc' := 201) rfl ?_
          exact ow_retZW (s := s) (vm0 := T63.vm) C hS X84 (Nat.le_trans Y82 (Nat.le_of_eq (congrArg Array.size Hc84.symm))) at_201 (Nat.le_of_ble_eq_true rfl) (Nat.le_of_ble_eq_true rfl) (Or.inl rfl) ⟨(show some (Value.int (0 : Int32)) = some (Value.int (own_law q0)) from congrArg (fun z => some (Value.int z)) (by unfold own_law; rw [if_neg b66, if_neg b102, if_pos b139, if_neg b185])), Nn82⟩
        · refine ow_iconst (1 : Int32) C X84 at_188 (by decide) (pc' := 189) rfl ?_
          refine ow_goto C X84 at_189 (pcT := 193) (by decide) (by decide) ?_
          refine ow_icmp_ne C X84 at_193 (pcT := 200) (pc' := 196) (by decide) (by decide) rfl (fun bq => absurd (by decide) bq) (fun _ => ?_)
          refine ow_iconst (1 : Int32) C X84 at_196 (by decide) (pc' := 197) rfl ?_
          refine ow_goto C X84 at_197 (pcT := 201) (by decide) (by decide) ?_
          exact ow_retZW (s := s) (vm0 := T63.vm) C hS X84 (Nat.le_trans Y82 (Nat.le_of_eq (congrArg Array.size Hc84.symm))) at_201 (Nat.le_of_ble_eq_true rfl) (Nat.le_of_ble_eq_true rfl) (Or.inr rfl) ⟨(show some (Value.int (1 : Int32)) = some (Value.int (own_law q0)) from congrArg (fun z => some (Value.int z)) (by unfold own_law; rw [if_neg b66, if_neg b102, if_pos b139, if_pos b185])), Nn82⟩
      · refine ow_aload C X83 at_142 rfl rfl (pc' := 144) rfl ?_
        refine ow_aload C X83 at_144 rfl rfl (pc' := 146) rfl ?_
        refine ow_iload C X83 at_146 rfl (pc' := 148) rfl ?_
        refine ow_aload C X83 at_148 rfl rfl (pc' := 150) rfl ?_
        refine ow_callV C X83 Hc83 (hw _ (List.mem_of_getElem? (i := 120) rfl)) (hw _ (List.mem_of_getElem? (i := 121) rfl)) (hw _ (List.mem_of_getElem? (i := 123) rfl)) rfl (hw _ (List.mem_of_getElem? (i := 122) rfl)) (hw _ (List.mem_of_getElem? (i := 2) rfl)) (hw _ (List.mem_of_getElem? (i := 124) rfl)) (by decide) E82 (rm_offB l Z a0 hw a58 s64 a61 q5 T82.heap n0 Ge58 E82 sn82 zn82 Fi82 Fp82 Fr82 ck hck (SC.ext O82.2) S82_s64 S82_n) pd_8 rfl (argsL := [(.ref s64), (.int q5), (.ref a61)]) (rest := []) rfl rfl at_150 (Nat.le_of_ble_eq_true rfl) (Nat.le_of_ble_eq_true rfl) (Nat.le_of_ble_eq_true rfl) (Nat.le_of_ble_eq_true rfl) (pc' := 153) rfl (fun T85 v85 L85 X85 Q85 => ?_)
        obtain ⟨rfl, N85, K85, E85, Fr85, sn85, zn85, ws85, Fi85, Fp85⟩ := Q85
        have S85_s64 := S82_s64.keep E82 (by decide) (hw _ (List.mem_of_getElem? (i := 1) rfl)) K85
        have S85_s65 := S82_s65.keep E82 (by decide) (hw _ (List.mem_of_getElem? (i := 1) rfl)) K85
        have S85_sn76 := S82_sn76.keep E82 (by decide) (hw _ (List.mem_of_getElem? (i := 1) rfl)) K85
        have S85_sn82 := S82_n.keep E82 (by decide) (hw _ (List.mem_of_getElem? (i := 1) rfl)) K85
        have S85_n : OwStr Z T85.heap sn85 := ws85.elim (fun w => by rw [w]; exact S85_s64) (fun w => by rw [w]; exact S85_sn82)
        have Nn85 := Fr.app Nn82 N85
        have O85 := O82.keep K85 (own_all1 Ge58)
        have Y85 := Nat.le_trans Y82 K85.1
        show OwF p e below _ T85 (mkF m 153 #[.val (.int q0), .val (.int q1), .val (.int q2), .val (.int q3), .val (.int q4), .val (.int q5), .val (.int (q0 &&& (3 : Int32))), .val (.ref a58), .val (.int (1 : Int32)), .val (.ref a61), .val (.ref s64), .val (.ref s65)] [])
        refine ow_iload C X85 at_153 rfl (pc' := 155) rfl ?_
        refine ow_if_eq C X85 at_155 (pcT := 170) (pc' := 158) (by decide) (by decide) rfl (fun bq => absurd bq (by decide)) (fun _ => ?_)
        refine ow_aload C X85 at_158 rfl rfl (pc' := 160) rfl ?_
        refine ow_callV C X85 rfl (hw _ (List.mem_of_getElem? (i := 9) rfl)) (hw _ (List.mem_of_getElem? (i := 10) rfl)) (hw _ (List.mem_of_getElem? (i := 12) rfl)) rfl (hw _ (List.mem_of_getElem? (i := 11) rfl)) (hw _ (List.mem_of_getElem? (i := 2) rfl)) (hw _ (List.mem_of_getElem? (i := 13) rfl)) (by decide) E85 (rm_fndR l Z a0 hw a61 a58 T85.heap Fr85) pd_0 rfl (argsL := []) (rest := []) rfl rfl at_160 (Nat.le_of_ble_eq_true rfl) (Nat.le_of_ble_eq_true rfl) (Nat.le_of_ble_eq_true rfl) (Nat.le_of_ble_eq_true rfl) (pc' := 163) rfl (fun T86 v86 L86 X86 Q86 => ?_)
        obtain ⟨rfl, rfl, Hc86⟩ := Q86
        rw [List.append_nil] at X86
        show OwF p e below _ T86 (mkF m 163 #[.val (.int q0), .val (.int q1), .val (.int q2), .val (.int q3), .val (.int q4), .val (.int q5), .val (.int (q0 &&& (3 : Int32))), .val (.ref a58), .val (.int (1 : Int32)), .val (.ref a61), .val (.ref s64), .val (.ref s65)] [(.int (1 : Int32))])
        refine ow_if_eq C X86 at_163 (pcT := 170) (pc' := 166) (by decide) (by decide) rfl (fun bq => absurd bq (by decide)) (fun _ => ?_)
        refine ow_iconst (1 : Int32) C X86 at_166 (by decide) (pc' := 167) rfl ?_
        refine ow_goto C X86 at_167 (pcT := 171) (by decide) (by decide) ?_
        refine ow_istore C X86 at_171 (Ls' := #[.val (.int q0), .val (.int q1), .val (.int q2), .val (.int q3), .val (.int q4), .val (.int q5), .val (.int (q0 &&& (3 : Int32))), .val (.ref a58), .val (.int (1 : Int32)), .val (.ref a61), .val (.ref s64), .val (.ref s65)]) rfl (pc' := 173) rfl ?_
        refine ow_iload C X86 at_173 rfl (pc' := 175) rfl ?_
        refine ow_if_eq C X86 at_175 (pcT := 200) (pc' := 178) (by decide) (by decide) rfl (fun bq => absurd bq (by decide)) (fun _ => ?_)
        refine ow_aload C X86 at_178 rfl rfl (pc' := 180) rfl ?_
        refine ow_callV C X86 Hc86 (hw _ (List.mem_of_getElem? (i := 9) rfl)) (hw _ (List.mem_of_getElem? (i := 10) rfl)) (hw _ (List.mem_of_getElem? (i := 12) rfl)) rfl (hw _ (List.mem_of_getElem? (i := 11) rfl)) (hw _ (List.mem_of_getElem? (i := 2) rfl)) (hw _ (List.mem_of_getElem? (i := 13) rfl)) (by decide) E85 (rm_fndR l Z a0 hw a61 a58 T85.heap Fr85) pd_0 rfl (argsL := []) (rest := []) rfl rfl at_180 (Nat.le_of_ble_eq_true rfl) (Nat.le_of_ble_eq_true rfl) (Nat.le_of_ble_eq_true rfl) (Nat.le_of_ble_eq_true rfl) (pc' := 183) rfl (fun T87 v87 L87 X87 Q87 => ?_)
        obtain ⟨rfl, rfl, Hc87⟩ := Q87
        rw [List.append_nil] at X87
        show OwF p e below _ T87 (mkF m 183 #[.val (.int q0), .val (.int q1), .val (.int q2), .val (.int q3), .val (.int q4), .val (.int q5), .val (.int (q0 &&& (3 : Int32))), .val (.ref a58), .val (.int (1 : Int32)), .val (.ref a61), .val (.ref s64), .val (.ref s65)] [(.int (1 : Int32))])
        refine ow_iload C X87 at_183 rfl (pc' := 185) rfl ?_
        refine ow_if_le C X87 at_185 (pcT := 192) (pc' := 188) (by decide) (by decide) rfl (fun b185 => ?_) (fun b185 => ?_)
        · refine ow_iconst (0 : Int32) C X87 at_192 (by decide) (pc' := 193) rfl ?_
          refine ow_icmp_ne C X87 at_193 (pcT := 200) (pc' := 196) (by decide) (by decide) rfl (fun _ => ?_) (fun bq => absurd bq (by decide))
          refine ow_iconst (0 : Int32) C X87 at_200 (by decide) (pc' := 201) rfl ?_
          exact ow_retZW (s := s) (vm0 := T63.vm) C hS X87 (Nat.le_trans Y85 (Nat.le_of_eq (congrArg Array.size Hc87.symm))) at_201 (Nat.le_of_ble_eq_true rfl) (Nat.le_of_ble_eq_true rfl) (Or.inl rfl) ⟨(show some (Value.int (0 : Int32)) = some (Value.int (own_law q0)) from congrArg (fun z => some (Value.int z)) (by unfold own_law; rw [if_neg b66, if_neg b102, if_neg b139, if_neg b185])), Nn85⟩
        · refine ow_iconst (1 : Int32) C X87 at_188 (by decide) (pc' := 189) rfl ?_
          refine ow_goto C X87 at_189 (pcT := 193) (by decide) (by decide) ?_
          refine ow_icmp_ne C X87 at_193 (pcT := 200) (pc' := 196) (by decide) (by decide) rfl (fun bq => absurd (by decide) bq) (fun _ => ?_)
          refine ow_iconst (1 : Int32) C X87 at_196 (by decide) (pc' := 197) rfl ?_
          refine ow_goto C X87 at_197 (pcT := 201) (by decide) (by decide) ?_
          exact ow_retZW (s := s) (vm0 := T63.vm) C hS X87 (Nat.le_trans Y85 (Nat.le_of_eq (congrArg Array.size Hc87.symm))) at_201 (Nat.le_of_ble_eq_true rfl) (Nat.le_of_ble_eq_true rfl) (Or.inr rfl) ⟨(show some (Value.int (1 : Int32)) = some (Value.int (own_law q0)) from congrArg (fun z => some (Value.int z)) (by unfold own_law; rw [if_neg b66, if_neg b102, if_neg b139, if_pos b185])), Nn85⟩
theorem own_and3 (x : Int32) : x &&& (3 : Int32) = 0 ∨ x &&& (3 : Int32) = 1 ∨ x &&& (3 : Int32) = 2 ∨ x &&& (3 : Int32) = 3 := by
  have h : (x &&& (3 : Int32)).toBitVec.toNat ≤ 3 := by
    rw [Int32.toBitVec_and, BitVec.toNat_and]; exact Nat.and_le_right
  have e : ∀ k : Nat, k ≤ 3 → (x &&& (3 : Int32)).toBitVec.toNat = k → x &&& (3 : Int32) = Int32.ofNat k := fun k hk q => by
    apply Int32.toBitVec_inj.mp
    apply BitVec.eq_of_toNat_eq
    rw [q]
    have : k = 0 ∨ k = 1 ∨ k = 2 ∨ k = 3 := by omega
    rcases this with rfl | rfl | rfl | rfl <;> rfl
  generalize hk : (x &&& (3 : Int32)).toBitVec.toNat = k at *
  have h4 : k = 0 ∨ k = 1 ∨ k = 2 ∨ k = 3 := by omega
  rcases h4 with rfl | rfl | rfl | rfl
  · exact Or.inl (e 0 (by omega) rfl)
  · exact Or.inr (Or.inl (e 1 (by omega) rfl))
  · exact Or.inr (Or.inr (Or.inl (e 2 (by omega) rfl)))
  · exact Or.inr (Or.inr (Or.inr (e 3 (by omega) rfl)))

theorem own_law_true (q0 : Int32) : own_law q0 = 1 := by
  have h : ∀ n : Int32, (n = 0 ∨ n = 1 ∨ n = 2 ∨ n = 3) → q0 &&& (3 : Int32) = n → own_law q0 = 1 := by
    intro n hn hq
    unfold own_law
    rw [hq]
    rcases hn with rfl | rfl | rfl | rfl <;> decide
  exact h _ (own_and3 q0) rfl

set_option maxRecDepth 65536 in
set_option maxHeartbeats 40000000 in
theorem comes_1 {Post : Tables → Env → Array Value → State → Outcome → State → Prop} (hpost : ∀ tb e args s v u, (limb_1_1.after args s (.returned v) u = true ∧ limb_1_2.after args s (.returned v) u = true ∧ True) → ReturnedEndW s (.returned v) u (Jvm.fieldLocs frame_1_writes args s ++ Jvm.arrayLocs frame_1_arrays args s ++ Jvm.staticLocs frame_1_statics s) 32 7680 → Post tb e args s (.returned v) u) :
    ArmFor flags0 classFile x code maxLocals ret World_1 tables_1 room_1 Calls_1 rest_1 Pre_1 Post := by
  intro l hfl _ _ p e ha hc hk s m args below hf hA hF happ hP
  obtain ⟨hcalls, hrest, hpre⟩ := hP
  obtain ⟨-, -, -, hnamed, -, -, -, hat⟩ := (Spec.applies_iff hf).mp happ
  obtain ⟨hg, hn⟩ := and_e (Cond.before_iff.mp (show (Jvm.Cond.and given_1 narrow_1).before args s = true from hpre))
  obtain ⟨h1, hg0⟩ := and_e hg
  obtain ⟨ha0, hg1⟩ := and_e hg0
  obtain ⟨ha1, hg2⟩ := and_e hg1
  obtain ⟨ha2, hg3⟩ := and_e hg2
  obtain ⟨ha3, hg4⟩ := and_e hg3
  obtain ⟨ha4, hg5⟩ := and_e hg4
  obtain ⟨w0, w1, w2, w3, w4, w5, rfl⟩ : ∃ w0 w1 w2 w3 w4 w5 : Value, args = #[w0, w1, w2, w3, w4, w5] := by
    have hs : args.size = 6 := by simpa [Cond.value, given_1] using h1
    obtain ⟨L⟩ := args
    match L, hs with
    | [w0, w1, w2, w3, w4, w5], _ => exact ⟨w0, w1, w2, w3, w4, w5, rfl⟩
  have hw := fun d (hd : d ∈ tables_1) => atoms_spec (ws := Jvm.Cond.code x code maxLocals ret :: tables_1) hat d (List.mem_cons_of_mem _ hd)
  obtain ⟨q0, ev0⟩ := is_v ha0
  obtain rfl : w0 = (.int q0) := Option.some.inj ev0
  obtain ⟨q1, ev1⟩ := is_v ha1
  obtain rfl : w1 = (.int q1) := Option.some.inj ev1
  obtain ⟨q2, ev2⟩ := is_v ha2
  obtain rfl : w2 = (.int q2) := Option.some.inj ev2
  obtain ⟨q3, ev3⟩ := is_v ha3
  obtain rfl : w3 = (.int q3) := Option.some.inj ev3
  obtain ⟨q4, ev4⟩ := is_v ha4
  obtain rfl : w4 = (.int q4) := Option.some.inj ev4
  obtain ⟨q5, ev5⟩ := is_v hg5
  obtain rfl : w5 = (.int q5) := Option.some.inj ev5
  obtain ⟨hsets, hown0⟩ := atoms_of _ (rest_1_c_eq ▸ (show rest_1_c.before _ s = true from hrest))
  obtain ⟨ck, evk⟩ := is_v (Cond.before_iff.mp (hsets _ (List.mem_of_getElem? (i := 21) rfl)))
  have SC : Sta s s.heap "java/lang/String" "COMPACT_STRINGS" "Z" (.int ck) := Sta.start evk (Or.inl (hsets _ (List.mem_of_getElem? (i := 20) rfl)))
  have hck : ¬ ck = 0 := fun w => by
    have q := not_v (Cond.before_iff.mp (hsets _ (List.mem_of_getElem? (i := 22) rfl)))
    subst w
    have q2 := eq_i evk (Term.int_eval (0)) rfl
    rw [q2] at q; cases q
  obtain ⟨kd, evd⟩ := exa_v hn
  have EK := Exa.start evd hn
  have SK : Sta s s.heap "com/example/topsail/topsail/TopsailException$Kind" "UNMATCHABLE_VALUE" "Lcom/example/topsail/topsail/TopsailException$Kind;" (.ref kd) := Sta.start evd (Or.inr ⟨hw _ (List.mem_of_getElem? (i := 31) rfl), hw _ (List.mem_of_getElem? (i := 32) rfl)⟩)
  obtain ⟨v1, ev1, r1⟩ := isR_v (Cond.before_iff.mp (hsets _ (List.mem_of_getElem? (i := 7) rfl)))
  obtain ⟨v2, ev2, r2⟩ := isR_v (Cond.before_iff.mp (hsets _ (List.mem_of_getElem? (i := 12) rfl)))
  have S1 : Sta s s.heap "java/lang/Throwable" "UNASSIGNED_STACK" "[Ljava/lang/StackTraceElement;" v1 := Sta.start ev1 (Or.inl (hsets _ (List.mem_of_getElem? (i := 6) rfl)))
  have S2 : Sta s s.heap "java/lang/Throwable" "SUPPRESSED_SENTINEL" "Ljava/util/List;" v2 := Sta.start ev2 (Or.inl (hsets _ (List.mem_of_getElem? (i := 11) rfl)))
  have hl : l.stackTraces = true := by have := Jvm.D.Launch.traces_on hfl ha; rw [ha.platform] at this; exact this
  obtain ⟨n, o, h1, h2, h3, _, L, rfl, ⟨rfl, N⟩, hq⟩ := rm_law hl s _ hw q0 q1 q2 q3 q4 q5 s.heap.size s.heap (Nat.le_refl _) ⟨v1, r1⟩ ⟨v2, r2⟩ S1 S2 ThS.start (Old.start s) ck hck SC kd SK EK tables_1 p e ha hc hk s m _ below hf ((Spec.applies_iff_loose hf).mp happ).1 ⟨rfl, State.Warmed39.refl s, rfl⟩ ⟨hcalls.1, hcalls.2.1⟩
  rw [own_law_true q0] at *
  refine ⟨n, _, h1, h2, h3, hpost _ _ _ _ _ _ ⟨Cond.after_iff.mpr rfl, Cond.after_iff.mpr (eq_i res_at (Term.int_eval (1)) rfl), trivial⟩ ⟨hq.1, hq.2.1, hq.2.2.1, (hq.2.2.2.sift fun y hy => Or.inr (N y hy)).mono (by decide) (by decide)⟩⟩
theorem main_1_1 : Claimed_1_1 := comes_1 fun _ _ _ _ _ _ h hF => ⟨h.1, hF⟩
theorem main_1_2 : Claimed_1_2 := comes_1 fun _ _ _ _ _ _ h hF => ⟨h.2.1, hF⟩
end Jvm.Pilot.@@N@@
namespace Jvm.Pilot.@@N@@
open Jvm Jvm.ClassFile Sem Op Lib Jvm.Free Jvm.Stand Jvm.Pilot.@@N@@.Jvm.D
/-! MADE BY PROGRAM (witnessworld.py) out of the Statement's table words and the real class files: 39 classes; the members and pool entries that the words name. The judged class is class 1, her method 1. -/
namespace start1
open Jvm.ClassFile
def u (s : String) : CpInfo := .utf8 (stringToUtf16 s)
/-- a pool by its gaps: so many unusable entries, then the entry; so many at the end -/
def gap : Nat → List CpInfo → List CpInfo
  | 0, r => r
  | n + 1, r => .unusable :: gap n r
def poolList (es : List (Nat × CpInfo)) (last : Nat) : List CpInfo := es.foldr (fun e r => gap e.1 (e.2 :: r)) (gap last [])
def pool (es : List (Nat × CpInfo)) (last : Nat) : Array CpInfo := ⟨poolList es last⟩
def fileOf (pool : Array CpInfo) (this : Nat) (attrs : Array Attribute := #[]) (ms : Array MethodInfo := #[]) (fl : Nat := 33) (sup : Nat := 0) (ifs : Array Nat := #[]) (fds : Array FieldInfo := #[]) : ClassFile where
  minorVersion := 0
  majorVersion := 65
  constantPool := pool
  accessFlags := fl
  thisClass := this
  superClass := sup
  interfaces := ifs
  fields := fds
  methods := ms
  attributes := attrs
def plain (name : String) (sup : Option ClassId) : Class where
  name := name
  kind := .ordinary
  loader := none
  accessFlags := 33
  super := sup
  interfaces := #[]
  cf := none
  fields := #[]
  methods := #[]
  instanceTypes := #[]
  staticTypes := #[]
  resolved := #[]
  callSites := []
  init := .initialized
  statics := none
  mirror := none

def pool0 : Array CpInfo := pool [(5, u "<init>"), (0, u "()V"), (1, .class_ 10), (1, u "java/lang/Object")] 113

def k0c0 : Code := { maxStack := 0, maxLocals := 1, code := object_method_1_code, exceptionTable := #[], attributes := #[] }
def k0m0 : Method := { name := "<init>", desc := "()V", sig := { parameters := [], returnType := none }, accessFlags := 1, code := some k0c0 }
/-- java/lang/Object -/
def k0 : Class := { plain "java/lang/Object" none with
  accessFlags := 33
  interfaces := #[]
  cf := some (fileOf pool0 8 #[] #[{ accessFlags := 1, nameIndex := 5, descriptorIndex := 6, attributes := #[] }] 33 0 #[] #[])
  fields := #[]
  methods := #[k0m0]
  instanceTypes := #[]
  staticTypes := #[]
  resolved := Array.replicate 124 none
  statics := none }

def pool1 : Array CpInfo := pool [(2, .class_ 4), (0, .nameAndType 5 6), (0, u "java/lang/Object"), (0, u "<init>"), (0, u "()V"), (0, .class_ 8), (0, u "com/example/topsail/topsail/FirstRefusal"), (0, .methodref 7 3), (0, .methodref 7 11), (0, .nameAndType 12 13), (0, u "found"), (0, u "()Z"), (0, .class_ 15), (0, u "com/example/topsail/topsail/UnmatchableValueException"), (0, .string 17), (0, u "x"), (0, .methodref 14 19), (0, .nameAndType 5 20), (0, u "(Ljava/lang/String;Ljava/lang/Throwable;)V"), (0, .methodref 22 23), (0, .class_ 24), (0, .nameAndType 25 26), (0, u "java/lang/String"), (0, u "valueOf"), (0, u "(C)Ljava/lang/String;"), (0, .methodref 7 28), (0, .nameAndType 29 30), (0, u "offer"), (0, u "(Ljava/lang/String;ILcom/example/topsail/topsail/UnmatchableValueException;)V"), (0, .class_ 32), (0, u "com/example/topsail/topsail/FirstRefusalFoundPinLaw"), (2, u "law"), (0, u "(IIIIII)Z")] 3

def k1m0 : Method := { name := "<init>", desc := "()V", sig := { parameters := [], returnType := none }, accessFlags := 1, code := none }
def k1c1 : Code := { maxStack := 4, maxLocals := 12, code := code, exceptionTable := #[], attributes := #[] }
def k1m1 : Method := { name := "law", desc := "(IIIIII)Z", sig := { parameters := [.int, .int, .int, .int, .int, .int], returnType := some .boolean }, accessFlags := 9, code := some k1c1 }
/-- com/example/topsail/topsail/FirstRefusalFoundPinLaw -/
def k1 : Class := { plain "com/example/topsail/topsail/FirstRefusalFoundPinLaw" (some 0) with
  accessFlags := 49
  interfaces := #[]
  cf := some (fileOf pool1 31 #[] #[{ accessFlags := 1, nameIndex := 5, descriptorIndex := 6, attributes := #[] }, { accessFlags := 9, nameIndex := 35, descriptorIndex := 36, attributes := #[] }] 49 2 #[] #[])
  fields := #[]
  methods := #[k1m0, k1m1]
  instanceTypes := #[]
  staticTypes := #[]
  resolved := Array.replicate 40 none
  statics := none }

def pool2 : Array CpInfo := pool [(1, .methodref 2 3), (0, .class_ 4), (0, .nameAndType 5 6), (0, u "java/lang/Object"), (0, u "<init>"), (0, u "()V"), (0, .class_ 8), (0, u "com/example/topsail/topsail/FirstRefusal"), (7, .methodref 7 17), (0, .nameAndType 18 19), (0, u "found"), (0, u "()Z"), (0, .fieldref 7 21), (0, .nameAndType 22 23), (0, u "reason"), (0, u "Lcom/example/topsail/topsail/UnmatchableValueException;"), (0, .fieldref 7 25), (0, .nameAndType 26 27), (0, u "id"), (0, u "Ljava/lang/String;"), (0, .methodref 29 30), (0, .class_ 31), (0, .nameAndType 32 33), (0, u "java/lang/String"), (0, u "compareTo"), (0, u "(Ljava/lang/String;)I"), (0, .fieldref 7 35), (0, .nameAndType 36 37), (0, u "position"), (0, u "I"), (7, u "offer"), (0, u "(Ljava/lang/String;ILcom/example/topsail/topsail/UnmatchableValueException;)V")] 2

def k2c0 : Code := { maxStack := 1, maxLocals := 1, code := prog_2_method_1_code, exceptionTable := #[], attributes := #[] }
def k2m0 : Method := { name := "<init>", desc := "()V", sig := { parameters := [], returnType := none }, accessFlags := 0, code := some k2c0 }
def k2c1 : Code := { maxStack := 2, maxLocals := 5, code := prog_2_method_3_code, exceptionTable := #[], attributes := #[] }
def k2m1 : Method := { name := "offer", desc := "(Ljava/lang/String;ILcom/example/topsail/topsail/UnmatchableValueException;)V", sig := { parameters := [(.object "java/lang/String"), .int, (.object "com/example/topsail/topsail/UnmatchableValueException")], returnType := none }, accessFlags := 0, code := some k2c1 }
def k2c2 : Code := { maxStack := 1, maxLocals := 1, code := prog_2_method_4_code, exceptionTable := #[], attributes := #[] }
def k2m2 : Method := { name := "found", desc := "()Z", sig := { parameters := [], returnType := some .boolean }, accessFlags := 0, code := some k2c2 }
/-- com/example/topsail/topsail/FirstRefusal -/
def k2 : Class := { plain "com/example/topsail/topsail/FirstRefusal" (some 0) with
  accessFlags := 48
  interfaces := #[]
  cf := some (fileOf pool2 7 #[] #[{ accessFlags := 0, nameIndex := 5, descriptorIndex := 6, attributes := #[] }, { accessFlags := 0, nameIndex := 45, descriptorIndex := 46, attributes := #[] }, { accessFlags := 0, nameIndex := 18, descriptorIndex := 19, attributes := #[] }] 48 2 #[] #[{ accessFlags := 2, nameIndex := 26, descriptorIndex := 27, attributes := #[] }, { accessFlags := 2, nameIndex := 36, descriptorIndex := 37, attributes := #[] }, { accessFlags := 2, nameIndex := 22, descriptorIndex := 23, attributes := #[] }])
  fields := #[{ name := "id", type := (.object "java/lang/String"), accessFlags := 2, slot := 0, constantValue := 0 }, { name := "position", type := .int, accessFlags := 2, slot := 1, constantValue := 0 }, { name := "reason", type := (.object "com/example/topsail/topsail/UnmatchableValueException"), accessFlags := 2, slot := 2, constantValue := 0 }]
  methods := #[k2m0, k2m1, k2m2]
  instanceTypes := #[(.object "java/lang/String"), .int, (.object "com/example/topsail/topsail/UnmatchableValueException")]
  staticTypes := #[]
  resolved := Array.replicate 49 none
  statics := none }

def pool3 : Array CpInfo := pool [(1, .class_ 2), (0, u "java/io/Serializable"), (0, .class_ 4), (0, u "java/lang/Object")] 2

/-- java/io/Serializable -/
def k3 : Class := { plain "java/io/Serializable" (some 0) with
  accessFlags := 1537
  interfaces := #[]
  cf := some (fileOf pool3 1 #[] #[] 1537 3 #[] #[])
  fields := #[]
  methods := #[]
  instanceTypes := #[]
  staticTypes := #[]
  resolved := Array.replicate 7 none
  statics := none }

def pool4 : Array CpInfo := pool [(1, .methodref 2 3), (0, .class_ 4), (0, .nameAndType 5 6), (0, u "java/lang/Object"), (0, u "<init>"), (0, u "()V"), (0, .fieldref 8 9), (0, .class_ 10), (0, .nameAndType 11 12), (0, u "java/lang/Throwable"), (0, u "cause"), (0, u "Ljava/lang/Throwable;"), (0, .fieldref 8 14), (0, .nameAndType 15 16), (0, u "UNASSIGNED_STACK"), (0, u "[Ljava/lang/StackTraceElement;"), (0, .fieldref 8 18), (0, .nameAndType 19 16), (0, u "stackTrace"), (0, .fieldref 8 21), (0, .nameAndType 22 23), (0, u "SUPPRESSED_SENTINEL"), (0, u "Ljava/util/List;"), (0, .fieldref 8 25), (0, .nameAndType 26 23), (0, u "suppressedExceptions"), (0, .methodref 8 28), (0, .nameAndType 29 30), (0, u "fillInStackTrace"), (0, u "()Ljava/lang/Throwable;"), (0, .fieldref 8 32), (0, .nameAndType 33 34), (0, u "detailMessage"), (0, u "Ljava/lang/String;"), (28, u "(Ljava/lang/String;Ljava/lang/Throwable;)V"), (29, .class_ 94), (0, u "java/lang/Throwable$WrappedPrintStream"), (6, .class_ 103), (1, u "java/lang/Throwable$PrintStreamOrWriter"), (61, u "$assertionsDisabled"), (0, u "Z"), (26, .class_ 194), (0, u "java/lang/Throwable$WrappedPrintWriter"), (3, .fieldref 8 199), (0, .nameAndType 200 201), (0, u "backtrace"), (0, u "Ljava/lang/Object;"), (0, .methodref 8 203), (0, .nameAndType 29 204), (0, u "(I)Ljava/lang/Throwable;"), (6, u "depth"), (0, u "I"), (56, .class_ 271), (1, u "java/lang/Throwable$SentinelHolder"), (32, u "EMPTY_THROWABLE_ARRAY"), (0, u "[Ljava/lang/Throwable;"), (12, .class_ 319), (0, u "java/io/Serializable"), (0, u "serialVersionUID"), (0, u "J"), (5, u "NULL_CAUSE_MESSAGE"), (0, u "SELF_SUPPRESSION_MESSAGE"), (0, u "CAUSE_CAPTION"), (0, u "SUPPRESSED_CAPTION")] 73

def k4c0 : Code := { maxStack := 2, maxLocals := 1, code := jdk_78_method_1_code, exceptionTable := #[], attributes := #[] }
def k4m0 : Method := { name := "<init>", desc := "()V", sig := { parameters := [], returnType := none }, accessFlags := 1, code := some k4c0 }
def k4c1 : Code := { maxStack := 2, maxLocals := 3, code := jdk_78_method_3_code, exceptionTable := #[], attributes := #[] }
def k4m1 : Method := { name := "<init>", desc := "(Ljava/lang/String;Ljava/lang/Throwable;)V", sig := { parameters := [(.object "java/lang/String"), (.object "java/lang/Throwable")], returnType := none }, accessFlags := 1, code := some k4c1 }
def k4c2 : Code := { maxStack := 2, maxLocals := 1, code := ⟨#[0x2a, 0xb4, 0x00, 0x11, 0xc7, 0x00, 0x0a, 0x2a, 0xb4, 0x00, 0xc6, 0xc6, 0x00, 0x10, 0x2a, 0x03, 0xb6, 0x00, 0xca, 0x57, 0x2a, 0xb2, 0x00, 0x0d, 0xb5, 0x00, 0x11, 0x2a, 0xb0]⟩, exceptionTable := #[], attributes := #[] }
def k4m2 : Method := { name := "fillInStackTrace", desc := "()Ljava/lang/Throwable;", sig := { parameters := [], returnType := some (.object "java/lang/Throwable") }, accessFlags := 33, code := some k4c2 }
def k4m3 : Method := { name := "fillInStackTrace", desc := "(I)Ljava/lang/Throwable;", sig := { parameters := [.int], returnType := some (.object "java/lang/Throwable") }, accessFlags := 258, code := none }
/-- java/lang/Throwable -/
def k4 : Class := { plain "java/lang/Throwable" (some 0) with
  accessFlags := 33
  interfaces := #[3]
  cf := some (fileOf pool4 8 #[.nestMembers #[193, 93, 101, 269]] #[{ accessFlags := 1, nameIndex := 5, descriptorIndex := 6, attributes := #[] }, { accessFlags := 1, nameIndex := 5, descriptorIndex := 63, attributes := #[] }, { accessFlags := 33, nameIndex := 29, descriptorIndex := 30, attributes := #[] }, { accessFlags := 258, nameIndex := 29, descriptorIndex := 204, attributes := #[] }] 33 2 #[318] #[{ accessFlags := 26, nameIndex := 320, descriptorIndex := 321, attributes := #[] }, { accessFlags := 130, nameIndex := 200, descriptorIndex := 201, attributes := #[] }, { accessFlags := 2, nameIndex := 33, descriptorIndex := 34, attributes := #[] }, { accessFlags := 26, nameIndex := 15, descriptorIndex := 16, attributes := #[] }, { accessFlags := 2, nameIndex := 11, descriptorIndex := 12, attributes := #[] }, { accessFlags := 2, nameIndex := 19, descriptorIndex := 16, attributes := #[] }, { accessFlags := 130, nameIndex := 211, descriptorIndex := 212, attributes := #[] }, { accessFlags := 26, nameIndex := 22, descriptorIndex := 23, attributes := #[] }, { accessFlags := 2, nameIndex := 26, descriptorIndex := 23, attributes := #[] }, { accessFlags := 26, nameIndex := 327, descriptorIndex := 34, attributes := #[] }, { accessFlags := 26, nameIndex := 328, descriptorIndex := 34, attributes := #[] }, { accessFlags := 26, nameIndex := 329, descriptorIndex := 34, attributes := #[] }, { accessFlags := 26, nameIndex := 330, descriptorIndex := 34, attributes := #[] }, { accessFlags := 26, nameIndex := 304, descriptorIndex := 305, attributes := #[] }, { accessFlags := 4120, nameIndex := 165, descriptorIndex := 166, attributes := #[] }])
  fields := #[{ name := "serialVersionUID", type := .long, accessFlags := 26, slot := 0, constantValue := 0 }, { name := "backtrace", type := (.object "java/lang/Object"), accessFlags := 130, slot := 0, constantValue := 0 }, { name := "detailMessage", type := (.object "java/lang/String"), accessFlags := 2, slot := 1, constantValue := 0 }, { name := "UNASSIGNED_STACK", type := (.array (.object "java/lang/StackTraceElement")), accessFlags := 26, slot := 1, constantValue := 0 }, { name := "cause", type := (.object "java/lang/Throwable"), accessFlags := 2, slot := 2, constantValue := 0 }, { name := "stackTrace", type := (.array (.object "java/lang/StackTraceElement")), accessFlags := 2, slot := 3, constantValue := 0 }, { name := "depth", type := .int, accessFlags := 130, slot := 4, constantValue := 0 }, { name := "SUPPRESSED_SENTINEL", type := (.object "java/util/List"), accessFlags := 26, slot := 2, constantValue := 0 }, { name := "suppressedExceptions", type := (.object "java/util/List"), accessFlags := 2, slot := 5, constantValue := 0 }, { name := "NULL_CAUSE_MESSAGE", type := (.object "java/lang/String"), accessFlags := 26, slot := 3, constantValue := 0 }, { name := "SELF_SUPPRESSION_MESSAGE", type := (.object "java/lang/String"), accessFlags := 26, slot := 4, constantValue := 0 }, { name := "CAUSE_CAPTION", type := (.object "java/lang/String"), accessFlags := 26, slot := 5, constantValue := 0 }, { name := "SUPPRESSED_CAPTION", type := (.object "java/lang/String"), accessFlags := 26, slot := 6, constantValue := 0 }, { name := "EMPTY_THROWABLE_ARRAY", type := (.array (.object "java/lang/Throwable")), accessFlags := 26, slot := 7, constantValue := 0 }, { name := "$assertionsDisabled", type := .boolean, accessFlags := 4120, slot := 8, constantValue := 0 }]
  methods := #[k4m0, k4m1, k4m2, k4m3]
  instanceTypes := #[(.object "java/lang/Object"), (.object "java/lang/String"), (.object "java/lang/Throwable"), (.array (.object "java/lang/StackTraceElement")), .int, (.object "java/util/List")]
  staticTypes := #[.long, (.array (.object "java/lang/StackTraceElement")), (.object "java/util/List"), (.object "java/lang/String"), (.object "java/lang/String"), (.object "java/lang/String"), (.object "java/lang/String"), (.array (.object "java/lang/Throwable")), .boolean]
  resolved := Array.replicate 404 none
  statics := some 0 }

def pool5 : Array CpInfo := pool [(2, .class_ 4), (1, u "java/lang/Throwable"), (0, u "<init>"), (0, u "()V"), (3, .methodref 2 11), (0, .nameAndType 5 12), (0, u "(Ljava/lang/String;Ljava/lang/Throwable;)V"), (6, .class_ 20), (0, u "java/lang/Exception"), (0, u "serialVersionUID"), (0, u "J")] 17

def k5m0 : Method := { name := "<init>", desc := "()V", sig := { parameters := [], returnType := none }, accessFlags := 1, code := none }
def k5c1 : Code := { maxStack := 3, maxLocals := 3, code := jdk_59_method_3_code, exceptionTable := #[], attributes := #[] }
def k5m1 : Method := { name := "<init>", desc := "(Ljava/lang/String;Ljava/lang/Throwable;)V", sig := { parameters := [(.object "java/lang/String"), (.object "java/lang/Throwable")], returnType := none }, accessFlags := 1, code := some k5c1 }
/-- java/lang/Exception -/
def k5 : Class := { plain "java/lang/Exception" (some 4) with
  accessFlags := 33
  interfaces := #[]
  cf := some (fileOf pool5 19 #[] #[{ accessFlags := 1, nameIndex := 5, descriptorIndex := 6, attributes := #[] }, { accessFlags := 1, nameIndex := 5, descriptorIndex := 12, attributes := #[] }] 33 2 #[] #[{ accessFlags := 24, nameIndex := 21, descriptorIndex := 22, attributes := #[] }])
  fields := #[{ name := "serialVersionUID", type := .long, accessFlags := 24, slot := 0, constantValue := 0 }]
  methods := #[k5m0, k5m1]
  instanceTypes := #[(.object "java/lang/Object"), (.object "java/lang/String"), (.object "java/lang/Throwable"), (.array (.object "java/lang/StackTraceElement")), .int, (.object "java/util/List")]
  staticTypes := #[.long]
  resolved := Array.replicate 40 none
  statics := none }

def pool6 : Array CpInfo := pool [(2, .class_ 4), (1, u "java/lang/Exception"), (0, u "<init>"), (0, u "()V"), (3, .methodref 2 11), (0, .nameAndType 5 12), (0, u "(Ljava/lang/String;Ljava/lang/Throwable;)V"), (6, .class_ 20), (0, u "java/lang/RuntimeException"), (0, u "serialVersionUID"), (0, u "J")] 17

def k6m0 : Method := { name := "<init>", desc := "()V", sig := { parameters := [], returnType := none }, accessFlags := 1, code := none }
def k6c1 : Code := { maxStack := 3, maxLocals := 3, code := jdk_58_method_3_code, exceptionTable := #[], attributes := #[] }
def k6m1 : Method := { name := "<init>", desc := "(Ljava/lang/String;Ljava/lang/Throwable;)V", sig := { parameters := [(.object "java/lang/String"), (.object "java/lang/Throwable")], returnType := none }, accessFlags := 1, code := some k6c1 }
/-- java/lang/RuntimeException -/
def k6 : Class := { plain "java/lang/RuntimeException" (some 5) with
  accessFlags := 33
  interfaces := #[]
  cf := some (fileOf pool6 19 #[] #[{ accessFlags := 1, nameIndex := 5, descriptorIndex := 6, attributes := #[] }, { accessFlags := 1, nameIndex := 5, descriptorIndex := 12, attributes := #[] }] 33 2 #[] #[{ accessFlags := 24, nameIndex := 21, descriptorIndex := 22, attributes := #[] }])
  fields := #[{ name := "serialVersionUID", type := .long, accessFlags := 24, slot := 0, constantValue := 0 }]
  methods := #[k6m0, k6m1]
  instanceTypes := #[(.object "java/lang/Object"), (.object "java/lang/String"), (.object "java/lang/Throwable"), (.array (.object "java/lang/StackTraceElement")), .int, (.object "java/util/List")]
  staticTypes := #[.long]
  resolved := Array.replicate 40 none
  statics := none }

def pool7 : Array CpInfo := pool [(2, .class_ 4), (1, u "com/example/topsail/topsail/TopsailException"), (0, u "<init>"), (0, u "(Lcom/example/topsail/topsail/TopsailException$Kind;Ljava/lang/String;Ljava/lang/Throwable;)V"), (0, .methodref 8 9), (0, .class_ 10), (0, .nameAndType 5 11), (0, u "java/lang/RuntimeException"), (0, u "(Ljava/lang/String;Ljava/lang/Throwable;)V"), (0, .string 13), (0, u "kind"), (0, .methodref 15 16), (0, .class_ 17), (0, .nameAndType 18 19), (0, u "java/util/Objects"), (0, u "requireNonNull"), (0, u "(Ljava/lang/Object;Ljava/lang/String;)Ljava/lang/Object;"), (0, .class_ 21), (0, u "com/example/topsail/topsail/TopsailException$Kind"), (0, .fieldref 2 23), (0, .nameAndType 13 24), (0, u "Lcom/example/topsail/topsail/TopsailException$Kind;"), (0, u "serialVersionUID"), (0, u "J")] 17

def k7c0 : Code := { maxStack := 3, maxLocals := 4, code := prog_14_method_2_code, exceptionTable := #[], attributes := #[] }
def k7m0 : Method := { name := "<init>", desc := "(Lcom/example/topsail/topsail/TopsailException$Kind;Ljava/lang/String;Ljava/lang/Throwable;)V", sig := { parameters := [(.object "com/example/topsail/topsail/TopsailException$Kind"), (.object "java/lang/String"), (.object "java/lang/Throwable")], returnType := none }, accessFlags := 0, code := some k7c0 }
/-- com/example/topsail/topsail/TopsailException -/
def k7 : Class := { plain "com/example/topsail/topsail/TopsailException" (some 6) with
  accessFlags := 33
  interfaces := #[]
  cf := some (fileOf pool7 2 #[.nestMembers #[20]] #[{ accessFlags := 0, nameIndex := 5, descriptorIndex := 6, attributes := #[] }] 33 8 #[] #[{ accessFlags := 26, nameIndex := 25, descriptorIndex := 26, attributes := #[] }, { accessFlags := 18, nameIndex := 13, descriptorIndex := 24, attributes := #[] }])
  fields := #[{ name := "serialVersionUID", type := .long, accessFlags := 26, slot := 0, constantValue := 0 }, { name := "kind", type := (.object "com/example/topsail/topsail/TopsailException$Kind"), accessFlags := 18, slot := 6, constantValue := 0 }]
  methods := #[k7m0]
  instanceTypes := #[(.object "java/lang/Object"), (.object "java/lang/String"), (.object "java/lang/Throwable"), (.array (.object "java/lang/StackTraceElement")), .int, (.object "java/util/List"), (.object "com/example/topsail/topsail/TopsailException$Kind")]
  staticTypes := #[.long]
  resolved := Array.replicate 44 none
  statics := none }

def pool8 : Array CpInfo := pool [(1, .fieldref 2 3), (0, .class_ 4), (0, .nameAndType 5 6), (0, u "com/example/topsail/topsail/TopsailException$Kind"), (0, u "UNMATCHABLE_VALUE"), (0, u "Lcom/example/topsail/topsail/TopsailException$Kind;"), (0, .methodref 8 9), (0, .class_ 10), (0, .nameAndType 11 12), (0, u "com/example/topsail/topsail/TopsailException"), (0, u "<init>"), (0, u "(Lcom/example/topsail/topsail/TopsailException$Kind;Ljava/lang/String;Ljava/lang/Throwable;)V"), (0, .class_ 14), (0, u "com/example/topsail/topsail/UnmatchableValueException"), (0, u "serialVersionUID"), (0, u "J"), (3, u "(Ljava/lang/String;Ljava/lang/Throwable;)V")] 6

def k8c0 : Code := { maxStack := 4, maxLocals := 3, code := prog_16_method_1_code, exceptionTable := #[], attributes := #[] }
def k8m0 : Method := { name := "<init>", desc := "(Ljava/lang/String;Ljava/lang/Throwable;)V", sig := { parameters := [(.object "java/lang/String"), (.object "java/lang/Throwable")], returnType := none }, accessFlags := 1, code := some k8c0 }
/-- com/example/topsail/topsail/UnmatchableValueException -/
def k8 : Class := { plain "com/example/topsail/topsail/UnmatchableValueException" (some 7) with
  accessFlags := 49
  interfaces := #[]
  cf := some (fileOf pool8 13 #[] #[{ accessFlags := 1, nameIndex := 11, descriptorIndex := 20, attributes := #[] }] 49 8 #[] #[{ accessFlags := 26, nameIndex := 15, descriptorIndex := 16, attributes := #[] }])
  fields := #[{ name := "serialVersionUID", type := .long, accessFlags := 26, slot := 0, constantValue := 0 }]
  methods := #[k8m0]
  instanceTypes := #[(.object "java/lang/Object"), (.object "java/lang/String"), (.object "java/lang/Throwable"), (.array (.object "java/lang/StackTraceElement")), .int, (.object "java/util/List"), (.object "com/example/topsail/topsail/TopsailException$Kind")]
  staticTypes := #[.long]
  resolved := Array.replicate 27 none
  statics := none }

def pool9 : Array CpInfo := pool [(1, .class_ 2), (0, u "java/lang/Comparable"), (0, .class_ 4), (0, u "java/lang/Object")] 7

/-- java/lang/Comparable -/
def k9 : Class := { plain "java/lang/Comparable" (some 0) with
  accessFlags := 1537
  interfaces := #[]
  cf := some (fileOf pool9 1 #[] #[] 1537 3 #[] #[])
  fields := #[]
  methods := #[]
  instanceTypes := #[]
  staticTypes := #[]
  resolved := Array.replicate 12 none
  statics := none }

def pool10 : Array CpInfo := pool [(2, .class_ 4), (1, u "java/lang/CharSequence"), (42, .class_ 48), (0, u "java/lang/CharSequence$1CodePointIterator"), (10, .class_ 60), (0, u "java/lang/CharSequence$1CharIterator"), (5, .class_ 67), (0, u "java/lang/Object")] 63

/-- java/lang/CharSequence -/
def k10 : Class := { plain "java/lang/CharSequence" (some 0) with
  accessFlags := 1537
  interfaces := #[]
  cf := some (fileOf pool10 2 #[.nestMembers #[47, 59]] #[] 1537 66 #[] #[])
  fields := #[]
  methods := #[]
  instanceTypes := #[]
  staticTypes := #[]
  resolved := Array.replicate 131 none
  statics := none }

def pool11 : Array CpInfo := pool [(1, .class_ 2), (0, u "java/lang/constant/Constable"), (0, .class_ 4), (0, u "java/lang/Object")] 6

/-- java/lang/constant/Constable -/
def k11 : Class := { plain "java/lang/constant/Constable" (some 0) with
  accessFlags := 1537
  interfaces := #[]
  cf := some (fileOf pool11 1 #[] #[] 1537 3 #[] #[])
  fields := #[]
  methods := #[]
  instanceTypes := #[]
  staticTypes := #[]
  resolved := Array.replicate 11 none
  statics := none }

def pool12 : Array CpInfo := pool [(1, .class_ 2), (0, u "java/lang/constant/ConstantDesc"), (0, .class_ 4), (0, u "java/lang/Object")] 32

/-- java/lang/constant/ConstantDesc -/
def k12 : Class := { plain "java/lang/constant/ConstantDesc" (some 0) with
  accessFlags := 1537
  interfaces := #[]
  cf := some (fileOf pool12 1 #[] #[] 1537 3 #[] #[])
  fields := #[]
  methods := #[]
  instanceTypes := #[]
  staticTypes := #[]
  resolved := Array.replicate 37 none
  statics := none }

def pool13 : Array CpInfo := pool [(1, .methodref 2 3), (0, .class_ 4), (0, .nameAndType 5 6), (0, u "java/lang/Object"), (0, u "<init>"), (0, u "()V"), (2, .fieldref 10 11), (0, .class_ 12), (0, .nameAndType 13 14), (0, u "java/lang/String"), (0, u "value"), (0, u "[B"), (0, .fieldref 10 16), (0, .nameAndType 17 18), (0, u "coder"), (0, u "B"), (2, u "hash"), (0, u "I"), (2, u "hashIsZero"), (0, u "Z"), (11, .fieldref 10 39), (0, .nameAndType 40 26), (0, u "COMPACT_STRINGS"), (12, u "toBytes"), (53, .class_ 109), (1, u "java/lang/StringLatin1"), (99, .methodref 10 210), (0, .nameAndType 5 211), (0, u "([BB)V"), (123, .methodref 10 336), (0, .nameAndType 17 337), (0, u "()B"), (31, u "(C)Z"), (205, .class_ 576), (0, u "java/lang/CharSequence"), (9, .methodref 107 587), (0, .nameAndType 588 589), (0, u "compareTo"), (0, u "([B[B)I"), (9, u "CASE_INSENSITIVE_ORDER"), (0, u "Ljava/util/Comparator;"), (112, u "(Ljava/lang/String;)I"), (68, u "valueOf"), (0, u "(C)Ljava/lang/String;"), (231, .methodref 107 1016), (0, .nameAndType 1017 369), (0, u "canEncode"), (0, .methodref 107 1019), (0, .nameAndType 53 1020), (0, u "(C)[B"), (80, u "serialPersistentFields"), (0, u "[Ljava/io/ObjectStreamField;"), (0, .class_ 1104), (0, u "java/lang/String$CaseInsensitiveComparator"), (1, .class_ 1107), (0, u "java/io/Serializable"), (0, .class_ 1109), (0, u "java/lang/Comparable"), (0, .class_ 1111), (0, u "java/lang/constant/Constable"), (0, .class_ 1113), (0, u "java/lang/constant/ConstantDesc"), (2, u "serialVersionUID"), (0, u "J"), (3, u "REPL"), (0, u "C"), (2, u "LATIN1"), (1, u "UTF16")] 323

def k13m0 : Method := { name := "<init>", desc := "()V", sig := { parameters := [], returnType := none }, accessFlags := 1, code := none }
def k13c1 : Code := { maxStack := 2, maxLocals := 5, code := jdk_42_method_71_code, exceptionTable := #[], attributes := #[] }
def k13m1 : Method := { name := "compareTo", desc := "(Ljava/lang/String;)I", sig := { parameters := [(.object "java/lang/String")], returnType := some .int }, accessFlags := 1, code := some k13c1 }
def k13c2 : Code := { maxStack := 4, maxLocals := 1, code := jdk_42_method_139_code, exceptionTable := #[], attributes := #[] }
def k13m2 : Method := { name := "valueOf", desc := "(C)Ljava/lang/String;", sig := { parameters := [.char], returnType := some (.object "java/lang/String") }, accessFlags := 9, code := some k13c2 }
def k13c3 : Code := { maxStack := 2, maxLocals := 3, code := jdk_42_method_151_code, exceptionTable := #[], attributes := #[] }
def k13m3 : Method := { name := "<init>", desc := "([BB)V", sig := { parameters := [(.array .byte), .byte], returnType := none }, accessFlags := 0, code := some k13c3 }
def k13c4 : Code := { maxStack := 1, maxLocals := 1, code := jdk_42_method_152_code, exceptionTable := #[], attributes := #[] }
def k13m4 : Method := { name := "coder", desc := "()B", sig := { parameters := [], returnType := some .byte }, accessFlags := 0, code := some k13c4 }
/-- java/lang/String -/
def k13 : Class := { plain "java/lang/String" (some 0) with
  accessFlags := 49
  interfaces := #[3, 9, 10, 11, 12]
  cf := some (fileOf pool13 10 #[.nestMembers #[1103]] #[{ accessFlags := 1, nameIndex := 5, descriptorIndex := 6, attributes := #[] }, { accessFlags := 1, nameIndex := 588, descriptorIndex := 713, attributes := #[] }, { accessFlags := 9, nameIndex := 782, descriptorIndex := 783, attributes := #[] }, { accessFlags := 0, nameIndex := 5, descriptorIndex := 211, attributes := #[] }, { accessFlags := 0, nameIndex := 17, descriptorIndex := 337, attributes := #[] }] 49 2 #[1106, 1108, 575, 1110, 1112] #[{ accessFlags := 18, nameIndex := 13, descriptorIndex := 14, attributes := #[] }, { accessFlags := 18, nameIndex := 17, descriptorIndex := 18, attributes := #[] }, { accessFlags := 2, nameIndex := 21, descriptorIndex := 22, attributes := #[] }, { accessFlags := 2, nameIndex := 25, descriptorIndex := 26, attributes := #[] }, { accessFlags := 26, nameIndex := 1116, descriptorIndex := 1117, attributes := #[] }, { accessFlags := 24, nameIndex := 40, descriptorIndex := 26, attributes := #[] }, { accessFlags := 26, nameIndex := 1101, descriptorIndex := 1102, attributes := #[] }, { accessFlags := 26, nameIndex := 1121, descriptorIndex := 1122, attributes := #[] }, { accessFlags := 25, nameIndex := 599, descriptorIndex := 600, attributes := #[] }, { accessFlags := 24, nameIndex := 1125, descriptorIndex := 18, attributes := #[] }, { accessFlags := 24, nameIndex := 1127, descriptorIndex := 18, attributes := #[] }])
  fields := #[{ name := "value", type := (.array .byte), accessFlags := 18, slot := 0, constantValue := 0 }, { name := "coder", type := .byte, accessFlags := 18, slot := 1, constantValue := 0 }, { name := "hash", type := .int, accessFlags := 2, slot := 2, constantValue := 0 }, { name := "hashIsZero", type := .boolean, accessFlags := 2, slot := 3, constantValue := 0 }, { name := "serialVersionUID", type := .long, accessFlags := 26, slot := 0, constantValue := 0 }, { name := "COMPACT_STRINGS", type := .boolean, accessFlags := 24, slot := 1, constantValue := 0 }, { name := "serialPersistentFields", type := (.array (.object "java/io/ObjectStreamField")), accessFlags := 26, slot := 2, constantValue := 0 }, { name := "REPL", type := .char, accessFlags := 26, slot := 3, constantValue := 0 }, { name := "CASE_INSENSITIVE_ORDER", type := (.object "java/util/Comparator"), accessFlags := 25, slot := 4, constantValue := 0 }, { name := "LATIN1", type := .byte, accessFlags := 24, slot := 5, constantValue := 0 }, { name := "UTF16", type := .byte, accessFlags := 24, slot := 6, constantValue := 0 }]
  methods := #[k13m0, k13m1, k13m2, k13m3, k13m4]
  instanceTypes := #[(.array .byte), .byte, .int, .boolean]
  staticTypes := #[.long, .boolean, (.array (.object "java/io/ObjectStreamField")), .char, (.object "java/util/Comparator"), .byte, .byte]
  resolved := Array.replicate 1451 none
  statics := some 1 }

def pool14 : Array CpInfo := pool [(2, .class_ 4), (1, u "java/lang/Enum"), (0, u "name"), (0, u "Ljava/lang/String;"), (2, u "ordinal"), (0, u "I"), (1, .class_ 14), (1, u "java/lang/Object"), (4, u "hash"), (86, .class_ 108), (1, u "java/lang/Enum$EnumDesc"), (2, .class_ 112), (0, u "java/lang/constant/Constable"), (0, .class_ 114), (0, u "java/lang/Comparable"), (0, .class_ 116), (0, u "java/io/Serializable")] 87

/-- java/lang/Enum -/
def k14 : Class := { plain "java/lang/Enum" (some 0) with
  accessFlags := 1057
  interfaces := #[11, 9, 3]
  cf := some (fileOf pool14 2 #[.nestMembers #[106]] #[] 1057 12 #[111, 113, 115] #[{ accessFlags := 18, nameIndex := 5, descriptorIndex := 6, attributes := #[] }, { accessFlags := 18, nameIndex := 9, descriptorIndex := 10, attributes := #[] }, { accessFlags := 2, nameIndex := 19, descriptorIndex := 10, attributes := #[] }])
  fields := #[{ name := "name", type := (.object "java/lang/String"), accessFlags := 18, slot := 0, constantValue := 0 }, { name := "ordinal", type := .int, accessFlags := 18, slot := 1, constantValue := 0 }, { name := "hash", type := .int, accessFlags := 2, slot := 2, constantValue := 0 }]
  methods := #[]
  instanceTypes := #[(.object "java/lang/String"), .int, .int]
  staticTypes := #[]
  resolved := Array.replicate 204 none
  statics := none }

def pool15 : Array CpInfo := pool [(1, .class_ 2), (0, u "com/example/topsail/topsail/TopsailException$Kind"), (2, u "MALFORMED_CRITERIA"), (0, u "Lcom/example/topsail/topsail/TopsailException$Kind;"), (2, u "UNMATCHABLE_VALUE"), (2, u "DUPLICATE_ID"), (2, u "UNKNOWN_ID"), (2, u "UNKNOWN_INDEX"), (2, u "$VALUES"), (0, u "[Lcom/example/topsail/topsail/TopsailException$Kind;"), (6, .class_ 31), (1, u "java/lang/Enum"), (28, .class_ 61), (0, u "com/example/topsail/topsail/TopsailException")] 2

/-- com/example/topsail/topsail/TopsailException$Kind -/
def k15 : Class := { plain "com/example/topsail/topsail/TopsailException$Kind" (some 14) with
  accessFlags := 16433
  interfaces := #[]
  cf := some (fileOf pool15 1 #[.nestHost 60] #[] 16433 29 #[] #[{ accessFlags := 16409, nameIndex := 5, descriptorIndex := 6, attributes := #[] }, { accessFlags := 16409, nameIndex := 9, descriptorIndex := 6, attributes := #[] }, { accessFlags := 16409, nameIndex := 12, descriptorIndex := 6, attributes := #[] }, { accessFlags := 16409, nameIndex := 15, descriptorIndex := 6, attributes := #[] }, { accessFlags := 16409, nameIndex := 18, descriptorIndex := 6, attributes := #[] }, { accessFlags := 4122, nameIndex := 21, descriptorIndex := 22, attributes := #[] }])
  fields := #[{ name := "MALFORMED_CRITERIA", type := (.object "com/example/topsail/topsail/TopsailException$Kind"), accessFlags := 16409, slot := 0, constantValue := 0 }, { name := "UNMATCHABLE_VALUE", type := (.object "com/example/topsail/topsail/TopsailException$Kind"), accessFlags := 16409, slot := 1, constantValue := 0 }, { name := "DUPLICATE_ID", type := (.object "com/example/topsail/topsail/TopsailException$Kind"), accessFlags := 16409, slot := 2, constantValue := 0 }, { name := "UNKNOWN_ID", type := (.object "com/example/topsail/topsail/TopsailException$Kind"), accessFlags := 16409, slot := 3, constantValue := 0 }, { name := "UNKNOWN_INDEX", type := (.object "com/example/topsail/topsail/TopsailException$Kind"), accessFlags := 16409, slot := 4, constantValue := 0 }, { name := "$VALUES", type := (.array (.object "com/example/topsail/topsail/TopsailException$Kind")), accessFlags := 4122, slot := 5, constantValue := 0 }]
  methods := #[]
  instanceTypes := #[(.object "java/lang/String"), .int, .int]
  staticTypes := #[(.object "com/example/topsail/topsail/TopsailException$Kind"), (.object "com/example/topsail/topsail/TopsailException$Kind"), (.object "com/example/topsail/topsail/TopsailException$Kind"), (.object "com/example/topsail/topsail/TopsailException$Kind"), (.object "com/example/topsail/topsail/TopsailException$Kind"), (.array (.object "com/example/topsail/topsail/TopsailException$Kind"))]
  resolved := Array.replicate 64 none
  statics := some 2 }

def pool16 : Array CpInfo := pool [(2, .class_ 4), (1, u "java/lang/Object"), (0, u "<init>"), (0, u "()V"), (35, .class_ 44), (1, u "java/util/Objects"), (0, u "requireNonNull"), (48, u "(Ljava/lang/Object;Ljava/lang/String;)Ljava/lang/Object;")] 89

def k16m0 : Method := { name := "<init>", desc := "()V", sig := { parameters := [], returnType := none }, accessFlags := 2, code := none }
def k16c1 : Code := { maxStack := 3, maxLocals := 2, code := jdk_31_method_11_code, exceptionTable := #[], attributes := #[] }
def k16m1 : Method := { name := "requireNonNull", desc := "(Ljava/lang/Object;Ljava/lang/String;)Ljava/lang/Object;", sig := { parameters := [(.object "java/lang/Object"), (.object "java/lang/String")], returnType := some (.object "java/lang/Object") }, accessFlags := 9, code := some k16c1 }
/-- java/util/Objects -/
def k16 : Class := { plain "java/util/Objects" (some 0) with
  accessFlags := 49
  interfaces := #[]
  cf := some (fileOf pool16 42 #[] #[{ accessFlags := 2, nameIndex := 5, descriptorIndex := 6, attributes := #[] }, { accessFlags := 9, nameIndex := 45, descriptorIndex := 94, attributes := #[] }] 49 2 #[] #[])
  fields := #[]
  methods := #[k16m0, k16m1]
  instanceTypes := #[]
  staticTypes := #[]
  resolved := Array.replicate 184 none
  statics := none }

def pool17 : Array CpInfo := pool [(4, .class_ 6), (1, u "java/lang/Object"), (0, u "<init>"), (0, u "()V"), (5, .class_ 16), (1, u "java/lang/StringLatin1"), (17, .methodref 14 35), (0, .nameAndType 36 37), (0, u "compareTo"), (0, u "([B[BII)I"), (0, .methodref 39 40), (0, .class_ 41), (0, .nameAndType 42 43), (0, u "java/lang/Math"), (0, u "min"), (0, u "(II)I"), (0, .methodref 45 46), (0, .class_ 47), (0, .nameAndType 48 49), (0, u "jdk/internal/util/ArraysSupport"), (0, u "mismatch"), (0, u "([B[BI)I"), (0, .methodref 14 51), (0, .nameAndType 52 53), (0, u "getChar"), (0, u "([BI)C"), (36, u "canEncode"), (14, u "(C)Z"), (15, u "$assertionsDisabled"), (0, u "Z"), (98, .class_ 223), (1, u "java/lang/StringLatin1$LinesSpliterator"), (63, u "([B[B)I"), (92, u "toBytes"), (1, u "(C)[B"), (7, .class_ 391), (0, u "java/lang/StringLatin1$CharsSpliterator")] 3

def k17m0 : Method := { name := "<init>", desc := "()V", sig := { parameters := [], returnType := none }, accessFlags := 0, code := none }
def k17c1 : Code := { maxStack := 2, maxLocals := 1, code := jdk_43_method_3_code, exceptionTable := #[], attributes := #[] }
def k17m1 : Method := { name := "canEncode", desc := "(C)Z", sig := { parameters := [.char], returnType := some .boolean }, accessFlags := 9, code := some k17c1 }
def k17c2 : Code := { maxStack := 4, maxLocals := 4, code := jdk_43_method_14_code, exceptionTable := #[], attributes := #[] }
def k17m2 : Method := { name := "compareTo", desc := "([B[B)I", sig := { parameters := [(.array .byte), (.array .byte)], returnType := some .int }, accessFlags := 9, code := some k17c2 }
def k17c3 : Code := { maxStack := 3, maxLocals := 6, code := jdk_43_method_15_code, exceptionTable := #[], attributes := #[] }
def k17m3 : Method := { name := "compareTo", desc := "([B[BII)I", sig := { parameters := [(.array .byte), (.array .byte), .int, .int], returnType := some .int }, accessFlags := 9, code := some k17c3 }
def k17c4 : Code := { maxStack := 2, maxLocals := 2, code := jdk_43_method_44_code, exceptionTable := #[], attributes := #[] }
def k17m4 : Method := { name := "getChar", desc := "([BI)C", sig := { parameters := [(.array .byte), .int], returnType := some .char }, accessFlags := 9, code := some k17c4 }
def k17c5 : Code := { maxStack := 4, maxLocals := 1, code := jdk_43_method_46_code, exceptionTable := #[], attributes := #[] }
def k17m5 : Method := { name := "toBytes", desc := "(C)[B", sig := { parameters := [.char], returnType := some (.array .byte) }, accessFlags := 9, code := some k17c5 }
/-- java/lang/StringLatin1 -/
def k17 : Class := { plain "java/lang/StringLatin1" (some 0) with
  accessFlags := 48
  interfaces := #[]
  cf := some (fileOf pool17 14 #[.nestMembers #[390, 221]] #[{ accessFlags := 0, nameIndex := 7, descriptorIndex := 8, attributes := #[] }, { accessFlags := 9, nameIndex := 90, descriptorIndex := 105, attributes := #[] }, { accessFlags := 9, nameIndex := 36, descriptorIndex := 287, attributes := #[] }, { accessFlags := 9, nameIndex := 36, descriptorIndex := 37, attributes := #[] }, { accessFlags := 9, nameIndex := 52, descriptorIndex := 53, attributes := #[] }, { accessFlags := 9, nameIndex := 380, descriptorIndex := 382, attributes := #[] }] 48 4 #[] #[{ accessFlags := 4120, nameIndex := 121, descriptorIndex := 122, attributes := #[] }])
  fields := #[{ name := "$assertionsDisabled", type := .boolean, accessFlags := 4120, slot := 0, constantValue := 0 }]
  methods := #[k17m0, k17m1, k17m2, k17m3, k17m4, k17m5]
  instanceTypes := #[]
  staticTypes := #[.boolean]
  resolved := Array.replicate 395 none
  statics := none }

def pool18 : Array CpInfo := pool [(1, .class_ 2), (0, u "java/lang/Math"), (1, .class_ 6), (1, u "java/lang/Object"), (0, u "<init>"), (0, u "()V"), (89, .class_ 100), (1, u "java/lang/Math$RandomNumberGeneratorHolder"), (71, u "negativeZeroFloatBits"), (0, u "J"), (2, u "negativeZeroDoubleBits"), (24, u "min"), (43, u "$assertionsDisabled"), (0, u "Z"), (88, u "(II)I"), (2, u "twoToTheDoubleScaleDown"), (0, u "D"), (4, u "twoToTheDoubleScaleUp"), (9, u "E"), (3, u "PI"), (2, u "TAU"), (2, u "DEGREES_TO_RADIANS"), (0, u "RADIANS_TO_DEGREES")] 94

def k18m0 : Method := { name := "<init>", desc := "()V", sig := { parameters := [], returnType := none }, accessFlags := 2, code := none }
def k18c1 : Code := { maxStack := 2, maxLocals := 2, code := jdk_29_method_69_code, exceptionTable := #[], attributes := #[] }
def k18m1 : Method := { name := "min", desc := "(II)I", sig := { parameters := [.int, .int], returnType := some .int }, accessFlags := 9, code := some k18c1 }
/-- java/lang/Math -/
def k18 : Class := { plain "java/lang/Math" (some 0) with
  accessFlags := 49
  interfaces := #[]
  cf := some (fileOf pool18 1 #[.nestMembers #[98]] #[{ accessFlags := 2, nameIndex := 7, descriptorIndex := 8, attributes := #[] }, { accessFlags := 9, nameIndex := 201, descriptorIndex := 335, attributes := #[] }] 49 4 #[] #[{ accessFlags := 25, nameIndex := 354, descriptorIndex := 339, attributes := #[] }, { accessFlags := 25, nameIndex := 358, descriptorIndex := 339, attributes := #[] }, { accessFlags := 25, nameIndex := 361, descriptorIndex := 339, attributes := #[] }, { accessFlags := 26, nameIndex := 364, descriptorIndex := 339, attributes := #[] }, { accessFlags := 26, nameIndex := 365, descriptorIndex := 339, attributes := #[] }, { accessFlags := 26, nameIndex := 172, descriptorIndex := 173, attributes := #[] }, { accessFlags := 26, nameIndex := 176, descriptorIndex := 173, attributes := #[] }, { accessFlags := 8, nameIndex := 344, descriptorIndex := 339, attributes := #[] }, { accessFlags := 8, nameIndex := 338, descriptorIndex := 339, attributes := #[] }, { accessFlags := 4120, nameIndex := 245, descriptorIndex := 246, attributes := #[] }])
  fields := #[{ name := "E", type := .double, accessFlags := 25, slot := 0, constantValue := 0 }, { name := "PI", type := .double, accessFlags := 25, slot := 1, constantValue := 0 }, { name := "TAU", type := .double, accessFlags := 25, slot := 2, constantValue := 0 }, { name := "DEGREES_TO_RADIANS", type := .double, accessFlags := 26, slot := 3, constantValue := 0 }, { name := "RADIANS_TO_DEGREES", type := .double, accessFlags := 26, slot := 4, constantValue := 0 }, { name := "negativeZeroFloatBits", type := .long, accessFlags := 26, slot := 5, constantValue := 0 }, { name := "negativeZeroDoubleBits", type := .long, accessFlags := 26, slot := 6, constantValue := 0 }, { name := "twoToTheDoubleScaleUp", type := .double, accessFlags := 8, slot := 7, constantValue := 0 }, { name := "twoToTheDoubleScaleDown", type := .double, accessFlags := 8, slot := 8, constantValue := 0 }, { name := "$assertionsDisabled", type := .boolean, accessFlags := 4120, slot := 9, constantValue := 0 }]
  methods := #[k18m0, k18m1]
  instanceTypes := #[]
  staticTypes := #[.double, .double, .double, .double, .double, .long, .long, .double, .double, .boolean]
  resolved := Array.replicate 460 none
  statics := none }

def pool19 : Array CpInfo := pool [(9, u "<init>"), (6, .class_ 18), (1, u "java/lang/Object"), (0, u "()V"), (1, .class_ 23), (1, u "jdk/internal/util/ArraysSupport"), (0, u "LOG2_ARRAY_LONG_INDEX_SCALE"), (0, u "I"), (2, u "U"), (0, u "Ljdk/internal/misc/Unsafe;"), (8, u "BIG_ENDIAN"), (0, u "Z"), (8, u "LOG2_BYTE_BIT_SIZE"), (4, u "LOG2_ARRAY_INT_INDEX_SCALE"), (54, u "JLA"), (0, u "Ljdk/internal/access/JavaLangAccess;"), (11, u "LOG2_ARRAY_BOOLEAN_INDEX_SCALE"), (9, u "LOG2_ARRAY_BYTE_INDEX_SCALE"), (5, u "LOG2_ARRAY_CHAR_INDEX_SCALE"), (5, u "LOG2_ARRAY_SHORT_INDEX_SCALE"), (5, u "mismatch"), (12, u "LOG2_ARRAY_FLOAT_INDEX_SCALE"), (24, u "LOG2_ARRAY_DOUBLE_INDEX_SCALE"), (89, u "T_BOOLEAN"), (2, u "T_CHAR"), (1, u "T_FLOAT"), (1, u "T_DOUBLE"), (1, u "T_BYTE"), (1, u "T_SHORT"), (1, u "T_INT"), (1, u "T_LONG"), (1, u "SOFT_MAX_ARRAY_LENGTH"), (41, u "([B[BI)I")] 41

def k19m0 : Method := { name := "<init>", desc := "()V", sig := { parameters := [], returnType := none }, accessFlags := 2, code := none }
def k19c1 : Code := { maxStack := 8, maxLocals := 4, code := jdk_48_method_13_code, exceptionTable := #[], attributes := #[] }
def k19m1 : Method := { name := "mismatch", desc := "([B[BI)I", sig := { parameters := [(.array .byte), (.array .byte), .int], returnType := some .int }, accessFlags := 9, code := some k19c1 }
/-- jdk/internal/util/ArraysSupport -/
def k19 : Class := { plain "jdk/internal/util/ArraysSupport" (some 0) with
  accessFlags := 33
  interfaces := #[]
  cf := some (fileOf pool19 21 #[] #[{ accessFlags := 2, nameIndex := 9, descriptorIndex := 19, attributes := #[] }, { accessFlags := 9, nameIndex := 149, descriptorIndex := 336, attributes := #[] }] 33 16 #[] #[{ accessFlags := 24, nameIndex := 28, descriptorIndex := 29, attributes := #[] }, { accessFlags := 26, nameIndex := 38, descriptorIndex := 39, attributes := #[] }, { accessFlags := 25, nameIndex := 121, descriptorIndex := 25, attributes := #[] }, { accessFlags := 25, nameIndex := 131, descriptorIndex := 25, attributes := #[] }, { accessFlags := 25, nameIndex := 137, descriptorIndex := 25, attributes := #[] }, { accessFlags := 25, nameIndex := 143, descriptorIndex := 25, attributes := #[] }, { accessFlags := 25, nameIndex := 53, descriptorIndex := 25, attributes := #[] }, { accessFlags := 25, nameIndex := 24, descriptorIndex := 25, attributes := #[] }, { accessFlags := 25, nameIndex := 162, descriptorIndex := 25, attributes := #[] }, { accessFlags := 25, nameIndex := 187, descriptorIndex := 25, attributes := #[] }, { accessFlags := 26, nameIndex := 48, descriptorIndex := 25, attributes := #[] }, { accessFlags := 25, nameIndex := 277, descriptorIndex := 25, attributes := #[] }, { accessFlags := 25, nameIndex := 280, descriptorIndex := 25, attributes := #[] }, { accessFlags := 25, nameIndex := 282, descriptorIndex := 25, attributes := #[] }, { accessFlags := 25, nameIndex := 284, descriptorIndex := 25, attributes := #[] }, { accessFlags := 25, nameIndex := 286, descriptorIndex := 25, attributes := #[] }, { accessFlags := 25, nameIndex := 288, descriptorIndex := 25, attributes := #[] }, { accessFlags := 25, nameIndex := 290, descriptorIndex := 25, attributes := #[] }, { accessFlags := 25, nameIndex := 292, descriptorIndex := 25, attributes := #[] }, { accessFlags := 26, nameIndex := 108, descriptorIndex := 109, attributes := #[] }, { accessFlags := 25, nameIndex := 294, descriptorIndex := 25, attributes := #[] }])
  fields := #[{ name := "U", type := (.object "jdk/internal/misc/Unsafe"), accessFlags := 24, slot := 0, constantValue := 0 }, { name := "BIG_ENDIAN", type := .boolean, accessFlags := 26, slot := 1, constantValue := 0 }, { name := "LOG2_ARRAY_BOOLEAN_INDEX_SCALE", type := .int, accessFlags := 25, slot := 2, constantValue := 0 }, { name := "LOG2_ARRAY_BYTE_INDEX_SCALE", type := .int, accessFlags := 25, slot := 3, constantValue := 0 }, { name := "LOG2_ARRAY_CHAR_INDEX_SCALE", type := .int, accessFlags := 25, slot := 4, constantValue := 0 }, { name := "LOG2_ARRAY_SHORT_INDEX_SCALE", type := .int, accessFlags := 25, slot := 5, constantValue := 0 }, { name := "LOG2_ARRAY_INT_INDEX_SCALE", type := .int, accessFlags := 25, slot := 6, constantValue := 0 }, { name := "LOG2_ARRAY_LONG_INDEX_SCALE", type := .int, accessFlags := 25, slot := 7, constantValue := 0 }, { name := "LOG2_ARRAY_FLOAT_INDEX_SCALE", type := .int, accessFlags := 25, slot := 8, constantValue := 0 }, { name := "LOG2_ARRAY_DOUBLE_INDEX_SCALE", type := .int, accessFlags := 25, slot := 9, constantValue := 0 }, { name := "LOG2_BYTE_BIT_SIZE", type := .int, accessFlags := 26, slot := 10, constantValue := 0 }, { name := "T_BOOLEAN", type := .int, accessFlags := 25, slot := 11, constantValue := 0 }, { name := "T_CHAR", type := .int, accessFlags := 25, slot := 12, constantValue := 0 }, { name := "T_FLOAT", type := .int, accessFlags := 25, slot := 13, constantValue := 0 }, { name := "T_DOUBLE", type := .int, accessFlags := 25, slot := 14, constantValue := 0 }, { name := "T_BYTE", type := .int, accessFlags := 25, slot := 15, constantValue := 0 }, { name := "T_SHORT", type := .int, accessFlags := 25, slot := 16, constantValue := 0 }, { name := "T_INT", type := .int, accessFlags := 25, slot := 17, constantValue := 0 }, { name := "T_LONG", type := .int, accessFlags := 25, slot := 18, constantValue := 0 }, { name := "JLA", type := (.object "jdk/internal/access/JavaLangAccess"), accessFlags := 26, slot := 19, constantValue := 0 }, { name := "SOFT_MAX_ARRAY_LENGTH", type := .int, accessFlags := 25, slot := 20, constantValue := 0 }]
  methods := #[k19m0, k19m1]
  instanceTypes := #[]
  staticTypes := #[(.object "jdk/internal/misc/Unsafe"), .boolean, .int, .int, .int, .int, .int, .int, .int, .int, .int, .int, .int, .int, .int, .int, .int, .int, .int, (.object "jdk/internal/access/JavaLangAccess"), .int]
  resolved := Array.replicate 378 none
  statics := none }

def pool20 : Array CpInfo := pool [(2, .class_ 4), (1, u "java/lang/Object"), (0, u "<init>"), (0, u "()V"), (12, .class_ 20), (0, u "java/util/Collections"), (63, u "r"), (0, u "Ljava/util/Random;"), (80, .class_ 167), (0, u "java/util/Collections$UnmodifiableCollection"), (6, .class_ 175), (0, u "java/util/Collections$UnmodifiableSequencedCollection"), (6, .class_ 183), (0, u "java/util/Collections$UnmodifiableSet"), (6, .class_ 191), (0, u "java/util/Collections$UnmodifiableSequencedSet"), (6, .class_ 199), (0, u "java/util/Collections$UnmodifiableSortedSet"), (6, .class_ 207), (0, u "java/util/Collections$UnmodifiableNavigableSet"), (4, .class_ 213), (0, u "java/util/Collections$UnmodifiableList"), (1, .class_ 216), (0, u "java/util/Collections$UnmodifiableRandomAccessList"), (6, .class_ 224), (0, u "java/util/Collections$UnmodifiableMap"), (6, .class_ 232), (0, u "java/util/Collections$UnmodifiableSequencedMap"), (4, .class_ 238), (0, u "java/util/Collections$UnmodifiableSortedMap"), (6, .class_ 246), (0, u "java/util/Collections$UnmodifiableNavigableMap"), (3, .class_ 251), (0, u "java/util/Collections$SynchronizedCollection"), (4, .class_ 257), (0, u "java/util/Collections$SynchronizedSet"), (4, .class_ 263), (0, u "java/util/Collections$SynchronizedSortedSet"), (1, .class_ 266), (0, u "java/util/Collections$SynchronizedNavigableSet"), (1, .class_ 269), (0, u "java/util/Collections$SynchronizedRandomAccessList"), (1, .class_ 272), (0, u "java/util/Collections$SynchronizedList"), (5, .class_ 279), (0, u "java/util/Collections$SynchronizedMap"), (1, .class_ 282), (0, u "java/util/Collections$SynchronizedSortedMap"), (1, .class_ 285), (0, u "java/util/Collections$SynchronizedNavigableMap"), (1, .class_ 288), (0, u "java/util/Collections$CheckedCollection"), (11, .class_ 301), (0, u "java/util/Collections$CheckedQueue"), (3, .class_ 306), (0, u "java/util/Collections$CheckedSet"), (3, .class_ 311), (0, u "java/util/Collections$CheckedSortedSet"), (3, .class_ 316), (0, u "java/util/Collections$CheckedNavigableSet"), (3, .class_ 321), (0, u "java/util/Collections$CheckedRandomAccessList"), (3, .class_ 326), (0, u "java/util/Collections$CheckedList"), (1, .class_ 329), (0, u "java/util/Collections$CheckedMap"), (3, .class_ 334), (0, u "java/util/Collections$CheckedSortedMap"), (3, .class_ 339), (0, u "java/util/Collections$CheckedNavigableMap"), (4, .class_ 346), (1, u "java/util/Collections$EmptyIterator"), (3, .class_ 352), (1, u "java/util/Collections$EmptyListIterator"), (2, .class_ 357), (1, u "java/util/Collections$EmptyEnumeration"), (4, u "EMPTY_SET"), (0, u "Ljava/util/Set;"), (6, u "EMPTY_LIST"), (0, u "Ljava/util/List;"), (2, u "EMPTY_MAP"), (0, u "Ljava/util/Map;"), (4, .class_ 381), (0, u "java/util/Collections$SingletonSet"), (2, .class_ 385), (0, u "java/util/Collections$1"), (1, .class_ 388), (0, u "java/util/Collections$2"), (1, .class_ 391), (0, u "java/util/Collections$SingletonList"), (1, .class_ 394), (0, u "java/util/Collections$SingletonMap"), (22, .class_ 418), (0, u "java/util/Collections$CopiesList"), (4, .class_ 425), (1, u "java/util/Collections$ReverseComparator"), (8, .class_ 435), (0, u "java/util/Collections$ReverseComparator2"), (6, .class_ 443), (0, u "java/util/Collections$3"), (25, .class_ 470), (0, u "java/util/Collections$SetFromMap"), (2, .class_ 474), (0, u "java/util/Collections$SequencedSetFromMap"), (3, .class_ 479), (0, u "java/util/Collections$AsLIFOQueue"), (11, .class_ 492), (0, u "java/util/Collections$EmptySet"), (1, .class_ 495), (0, u "java/util/Collections$EmptyList"), (1, .class_ 498), (0, u "java/util/Collections$EmptyMap"), (1, u "BINARYSEARCH_THRESHOLD"), (0, u "I"), (2, u "REVERSE_THRESHOLD"), (1, u "SHUFFLE_THRESHOLD"), (1, u "FILL_THRESHOLD"), (1, u "ROTATE_THRESHOLD"), (1, u "COPY_THRESHOLD"), (1, u "REPLACEALL_THRESHOLD"), (1, u "INDEXOFSUBLIST_THRESHOLD"), (333, .class_ 851), (0, u "java/util/Collections$CheckedMap$CheckedEntrySet"), (0, .class_ 853), (0, u "java/util/Collections$CheckedMap$CheckedEntrySet$CheckedEntry"), (0, .class_ 855), (0, u "java/util/Collections$CheckedMap$CheckedEntrySet$1"), (0, .class_ 857), (0, u "java/util/Collections$CheckedList$1"), (0, .class_ 859), (0, u "java/util/Collections$CheckedCollection$1"), (0, .class_ 861), (0, u "java/util/Collections$UnmodifiableNavigableMap$EmptyNavigableMap"), (0, .class_ 863), (0, u "java/util/Collections$UnmodifiableMap$UnmodifiableEntrySet"), (0, .class_ 865), (0, u "java/util/Collections$UnmodifiableMap$UnmodifiableEntrySet$UnmodifiableEntry"), (0, .class_ 867), (0, u "java/util/Collections$UnmodifiableMap$UnmodifiableEntrySet$UnmodifiableEntrySetSpliterator"), (0, .class_ 869), (0, u "java/util/Collections$UnmodifiableMap$UnmodifiableEntrySet$1"), (0, .class_ 871), (0, u "java/util/Collections$UnmodifiableList$1"), (0, .class_ 873), (0, u "java/util/Collections$UnmodifiableNavigableSet$EmptyNavigableSet"), (0, .class_ 875), (0, u "java/util/Collections$UnmodifiableCollection$1")] 57

def k20m0 : Method := { name := "<init>", desc := "()V", sig := { parameters := [], returnType := none }, accessFlags := 2, code := none }
/-- java/util/Collections -/
def k20 : Class := { plain "java/util/Collections" (some 0) with
  accessFlags := 33
  interfaces := #[]
  cf := some (fileOf pool20 19 #[.nestMembers #[478, 473, 469, 434, 423, 417, 393, 390, 380, 497, 494, 491, 355, 350, 344, 338, 333, 328, 850, 852, 854, 320, 325, 856, 315, 310, 305, 300, 287, 858, 284, 281, 278, 268, 271, 265, 262, 256, 250, 245, 860, 237, 231, 223, 862, 864, 866, 868, 215, 212, 870, 206, 872, 198, 190, 182, 174, 166, 874, 442, 387, 384]] #[{ accessFlags := 2, nameIndex := 5, descriptorIndex := 6, attributes := #[] }] 33 2 #[] #[{ accessFlags := 26, nameIndex := 500, descriptorIndex := 501, attributes := #[] }, { accessFlags := 26, nameIndex := 504, descriptorIndex := 501, attributes := #[] }, { accessFlags := 26, nameIndex := 506, descriptorIndex := 501, attributes := #[] }, { accessFlags := 26, nameIndex := 508, descriptorIndex := 501, attributes := #[] }, { accessFlags := 26, nameIndex := 510, descriptorIndex := 501, attributes := #[] }, { accessFlags := 26, nameIndex := 512, descriptorIndex := 501, attributes := #[] }, { accessFlags := 26, nameIndex := 514, descriptorIndex := 501, attributes := #[] }, { accessFlags := 26, nameIndex := 516, descriptorIndex := 501, attributes := #[] }, { accessFlags := 10, nameIndex := 84, descriptorIndex := 85, attributes := #[] }, { accessFlags := 25, nameIndex := 362, descriptorIndex := 363, attributes := #[] }, { accessFlags := 25, nameIndex := 370, descriptorIndex := 371, attributes := #[] }, { accessFlags := 25, nameIndex := 374, descriptorIndex := 375, attributes := #[] }])
  fields := #[{ name := "BINARYSEARCH_THRESHOLD", type := .int, accessFlags := 26, slot := 0, constantValue := 0 }, { name := "REVERSE_THRESHOLD", type := .int, accessFlags := 26, slot := 1, constantValue := 0 }, { name := "SHUFFLE_THRESHOLD", type := .int, accessFlags := 26, slot := 2, constantValue := 0 }, { name := "FILL_THRESHOLD", type := .int, accessFlags := 26, slot := 3, constantValue := 0 }, { name := "ROTATE_THRESHOLD", type := .int, accessFlags := 26, slot := 4, constantValue := 0 }, { name := "COPY_THRESHOLD", type := .int, accessFlags := 26, slot := 5, constantValue := 0 }, { name := "REPLACEALL_THRESHOLD", type := .int, accessFlags := 26, slot := 6, constantValue := 0 }, { name := "INDEXOFSUBLIST_THRESHOLD", type := .int, accessFlags := 26, slot := 7, constantValue := 0 }, { name := "r", type := (.object "java/util/Random"), accessFlags := 10, slot := 8, constantValue := 0 }, { name := "EMPTY_SET", type := (.object "java/util/Set"), accessFlags := 25, slot := 9, constantValue := 0 }, { name := "EMPTY_LIST", type := (.object "java/util/List"), accessFlags := 25, slot := 10, constantValue := 0 }, { name := "EMPTY_MAP", type := (.object "java/util/Map"), accessFlags := 25, slot := 11, constantValue := 0 }]
  methods := #[k20m0]
  instanceTypes := #[]
  staticTypes := #[.int, .int, .int, .int, .int, .int, .int, .int, (.object "java/util/Random"), (.object "java/util/Set"), (.object "java/util/List"), (.object "java/util/Map")]
  resolved := Array.replicate 933 none
  statics := some 3 }

def pool21 : Array CpInfo := pool [(2, .class_ 4), (1, u "java/lang/Object"), (0, u "<init>"), (0, u "()V"), (17, .class_ 26), (1, u "jdk/internal/util/Preconditions"), (28, .class_ 56), (0, u "jdk/internal/util/Preconditions$4"), (57, .class_ 115), (0, u "jdk/internal/util/Preconditions$1"), (7, u "SIOOBE_FORMATTER"), (0, u "Ljava/util/function/BiFunction;"), (0, .class_ 126), (0, u "jdk/internal/util/Preconditions$2"), (3, u "AIOOBE_FORMATTER"), (0, .class_ 132), (0, u "jdk/internal/util/Preconditions$3"), (3, u "IOOBE_FORMATTER")] 57

def k21m0 : Method := { name := "<init>", desc := "()V", sig := { parameters := [], returnType := none }, accessFlags := 1, code := none }
/-- jdk/internal/util/Preconditions -/
def k21 : Class := { plain "jdk/internal/util/Preconditions" (some 0) with
  accessFlags := 33
  interfaces := #[]
  cf := some (fileOf pool21 24 #[.nestMembers #[55, 131, 125, 114]] #[{ accessFlags := 1, nameIndex := 5, descriptorIndex := 6, attributes := #[] }] 33 2 #[] #[{ accessFlags := 25, nameIndex := 123, descriptorIndex := 124, attributes := #[] }, { accessFlags := 25, nameIndex := 130, descriptorIndex := 124, attributes := #[] }, { accessFlags := 25, nameIndex := 136, descriptorIndex := 124, attributes := #[] }])
  fields := #[{ name := "SIOOBE_FORMATTER", type := (.object "java/util/function/BiFunction"), accessFlags := 25, slot := 0, constantValue := 0 }, { name := "AIOOBE_FORMATTER", type := (.object "java/util/function/BiFunction"), accessFlags := 25, slot := 1, constantValue := 0 }, { name := "IOOBE_FORMATTER", type := (.object "java/util/function/BiFunction"), accessFlags := 25, slot := 2, constantValue := 0 }]
  methods := #[k21m0]
  instanceTypes := #[]
  staticTypes := #[(.object "java/util/function/BiFunction"), (.object "java/util/function/BiFunction"), (.object "java/util/function/BiFunction")]
  resolved := Array.replicate 194 none
  statics := some 4 }

def pool22 : Array CpInfo := pool [(8, .class_ 10), (1, u "java/lang/Iterable"), (24, .class_ 36), (0, u "java/lang/Object")] 25

/-- java/lang/Iterable -/
def k22 : Class := { plain "java/lang/Iterable" (some 0) with
  accessFlags := 1537
  interfaces := #[]
  cf := some (fileOf pool22 8 #[] #[] 1537 35 #[] #[])
  fields := #[]
  methods := #[]
  instanceTypes := #[]
  staticTypes := #[]
  resolved := Array.replicate 62 none
  statics := none }

def pool23 : Array CpInfo := pool [(10, .class_ 12), (1, u "java/util/Collection"), (47, .class_ 61), (0, u "java/lang/Object"), (0, .class_ 63), (0, u "java/lang/Iterable")] 51

/-- java/util/Collection -/
def k23 : Class := { plain "java/util/Collection" (some 0) with
  accessFlags := 1537
  interfaces := #[22]
  cf := some (fileOf pool23 10 #[] #[] 1537 60 #[62] #[])
  fields := #[]
  methods := #[]
  instanceTypes := #[]
  staticTypes := #[]
  resolved := Array.replicate 115 none
  statics := none }

def pool24 : Array CpInfo := pool [(2, .class_ 4), (1, u "java/lang/Object"), (0, u "<init>"), (0, u "()V"), (1, .class_ 10), (1, u "java/util/AbstractCollection"), (66, .class_ 78), (0, u "java/util/Collection")] 81

def k24m0 : Method := { name := "<init>", desc := "()V", sig := { parameters := [], returnType := none }, accessFlags := 4, code := none }
/-- java/util/AbstractCollection -/
def k24 : Class := { plain "java/util/AbstractCollection" (some 0) with
  accessFlags := 1057
  interfaces := #[23]
  cf := some (fileOf pool24 8 #[] #[{ accessFlags := 4, nameIndex := 5, descriptorIndex := 6, attributes := #[] }] 1057 2 #[77] #[])
  fields := #[]
  methods := #[k24m0]
  instanceTypes := #[]
  staticTypes := #[]
  resolved := Array.replicate 160 none
  statics := none }

def pool25 : Array CpInfo := pool [(8, .class_ 10), (1, u "java/util/SequencedCollection"), (15, .class_ 27), (0, u "java/lang/Object"), (0, .class_ 29), (0, u "java/util/Collection")] 27

/-- java/util/SequencedCollection -/
def k25 : Class := { plain "java/util/SequencedCollection" (some 0) with
  accessFlags := 1537
  interfaces := #[23]
  cf := some (fileOf pool25 8 #[] #[] 1537 26 #[28] #[])
  fields := #[]
  methods := #[]
  instanceTypes := #[]
  staticTypes := #[]
  resolved := Array.replicate 57 none
  statics := none }

def pool26 : Array CpInfo := pool [(8, .class_ 10), (1, u "java/util/List"), (92, .class_ 104), (0, u "java/lang/Object"), (15, .class_ 121), (0, u "java/util/SequencedCollection")] 129

/-- java/util/List -/
def k26 : Class := { plain "java/util/List" (some 0) with
  accessFlags := 1537
  interfaces := #[25]
  cf := some (fileOf pool26 8 #[] #[] 1537 103 #[120] #[])
  fields := #[]
  methods := #[]
  instanceTypes := #[]
  staticTypes := #[]
  resolved := Array.replicate 251 none
  statics := none }

def pool27 : Array CpInfo := pool [(2, .class_ 4), (1, u "java/util/AbstractCollection"), (0, u "<init>"), (0, u "()V"), (1, .class_ 10), (1, u "java/util/AbstractList"), (0, u "modCount"), (0, u "I"), (64, .class_ 78), (0, u "java/util/AbstractList$Itr"), (3, .class_ 83), (0, u "java/util/AbstractList$ListItr"), (9, .class_ 94), (0, u "java/util/AbstractList$RandomAccessSubList"), (3, .class_ 99), (0, u "java/util/AbstractList$SubList"), (33, .class_ 134), (0, u "java/util/List"), (73, .class_ 209), (0, u "java/util/AbstractList$SubList$1"), (0, .class_ 211), (0, u "java/util/AbstractList$RandomAccessSpliterator")] 6

def k27m0 : Method := { name := "<init>", desc := "()V", sig := { parameters := [], returnType := none }, accessFlags := 4, code := none }
/-- java/util/AbstractList -/
def k27 : Class := { plain "java/util/AbstractList" (some 24) with
  accessFlags := 1057
  interfaces := #[26]
  cf := some (fileOf pool27 8 #[.nestMembers #[93, 98, 208, 210, 82, 77]] #[{ accessFlags := 4, nameIndex := 5, descriptorIndex := 6, attributes := #[] }] 1057 2 #[133] #[{ accessFlags := 132, nameIndex := 11, descriptorIndex := 12, attributes := #[] }])
  fields := #[{ name := "modCount", type := .int, accessFlags := 132, slot := 0, constantValue := 0 }]
  methods := #[k27m0]
  instanceTypes := #[.int]
  staticTypes := #[]
  resolved := Array.replicate 218 none
  statics := none }

def pool28 : Array CpInfo := pool [(1, .class_ 2), (0, u "java/util/RandomAccess"), (0, .class_ 4), (0, u "java/lang/Object")] 2

/-- java/util/RandomAccess -/
def k28 : Class := { plain "java/util/RandomAccess" (some 0) with
  accessFlags := 1537
  interfaces := #[]
  cf := some (fileOf pool28 1 #[] #[] 1537 3 #[] #[])
  fields := #[]
  methods := #[]
  instanceTypes := #[]
  staticTypes := #[]
  resolved := Array.replicate 7 none
  statics := none }

def pool29 : Array CpInfo := pool [(2, .class_ 4), (1, u "java/util/AbstractList"), (0, u "<init>"), (0, u "()V"), (1, .class_ 10), (1, u "java/util/Collections"), (54, .class_ 66), (0, u "java/util/Collections$EmptyList"), (0, .class_ 68), (0, u "java/util/RandomAccess"), (0, .class_ 70), (0, u "java/io/Serializable"), (0, u "serialVersionUID"), (0, u "J")] 77

def k29m0 : Method := { name := "<init>", desc := "()V", sig := { parameters := [], returnType := none }, accessFlags := 2, code := none }
/-- java/util/Collections$EmptyList -/
def k29 : Class := { plain "java/util/Collections$EmptyList" (some 27) with
  accessFlags := 32
  interfaces := #[28, 3]
  cf := some (fileOf pool29 65 #[.nestHost 8] #[{ accessFlags := 2, nameIndex := 5, descriptorIndex := 6, attributes := #[] }] 32 2 #[67, 69] #[{ accessFlags := 26, nameIndex := 71, descriptorIndex := 72, attributes := #[] }])
  fields := #[{ name := "serialVersionUID", type := .long, accessFlags := 26, slot := 0, constantValue := 0 }]
  methods := #[k29m0]
  instanceTypes := #[.int]
  staticTypes := #[.long]
  resolved := Array.replicate 150 none
  statics := none }

def pool30 : Array CpInfo := pool [(2, .class_ 4), (1, u "java/lang/StackTraceElement"), (0, u "<init>"), (2, .class_ 10), (1, u "java/lang/Object"), (0, u "()V"), (2, u "format"), (0, u "B"), (2, u "classLoaderName"), (0, u "Ljava/lang/String;"), (2, u "moduleName"), (2, u "moduleVersion"), (12, u "declaringClass"), (4, u "methodName"), (2, u "fileName"), (2, u "lineNumber"), (0, u "I"), (65, u "declaringClassObject"), (0, u "Ljava/lang/Class;"), (33, .class_ 153), (1, u "java/lang/StackTraceElement$HashedModules"), (17, .class_ 172), (0, u "java/io/Serializable"), (0, u "NATIVE_METHOD"), (1, u "UNKNOWN_SOURCE"), (2, u "BUILTIN_CLASS_LOADER"), (1, u "JDK_NON_UPGRADEABLE_MODULE"), (1, u "serialVersionUID"), (0, u "J")] 51

def k30m0 : Method := { name := "<init>", desc := "()V", sig := { parameters := [], returnType := none }, accessFlags := 2, code := none }
/-- java/lang/StackTraceElement -/
def k30 : Class := { plain "java/lang/StackTraceElement" (some 0) with
  accessFlags := 49
  interfaces := #[3]
  cf := some (fileOf pool30 2 #[.nestMembers #[151]] #[{ accessFlags := 2, nameIndex := 5, descriptorIndex := 11, attributes := #[] }] 49 8 #[171] #[{ accessFlags := 26, nameIndex := 173, descriptorIndex := 19, attributes := #[] }, { accessFlags := 26, nameIndex := 175, descriptorIndex := 19, attributes := #[] }, { accessFlags := 130, nameIndex := 116, descriptorIndex := 117, attributes := #[] }, { accessFlags := 2, nameIndex := 18, descriptorIndex := 19, attributes := #[] }, { accessFlags := 2, nameIndex := 22, descriptorIndex := 19, attributes := #[] }, { accessFlags := 2, nameIndex := 25, descriptorIndex := 19, attributes := #[] }, { accessFlags := 2, nameIndex := 38, descriptorIndex := 19, attributes := #[] }, { accessFlags := 2, nameIndex := 43, descriptorIndex := 19, attributes := #[] }, { accessFlags := 2, nameIndex := 46, descriptorIndex := 19, attributes := #[] }, { accessFlags := 2, nameIndex := 49, descriptorIndex := 50, attributes := #[] }, { accessFlags := 2, nameIndex := 14, descriptorIndex := 15, attributes := #[] }, { accessFlags := 26, nameIndex := 178, descriptorIndex := 15, attributes := #[] }, { accessFlags := 26, nameIndex := 180, descriptorIndex := 15, attributes := #[] }, { accessFlags := 26, nameIndex := 182, descriptorIndex := 183, attributes := #[] }])
  fields := #[{ name := "NATIVE_METHOD", type := (.object "java/lang/String"), accessFlags := 26, slot := 0, constantValue := 0 }, { name := "UNKNOWN_SOURCE", type := (.object "java/lang/String"), accessFlags := 26, slot := 1, constantValue := 0 }, { name := "declaringClassObject", type := (.object "java/lang/Class"), accessFlags := 130, slot := 0, constantValue := 0 }, { name := "classLoaderName", type := (.object "java/lang/String"), accessFlags := 2, slot := 1, constantValue := 0 }, { name := "moduleName", type := (.object "java/lang/String"), accessFlags := 2, slot := 2, constantValue := 0 }, { name := "moduleVersion", type := (.object "java/lang/String"), accessFlags := 2, slot := 3, constantValue := 0 }, { name := "declaringClass", type := (.object "java/lang/String"), accessFlags := 2, slot := 4, constantValue := 0 }, { name := "methodName", type := (.object "java/lang/String"), accessFlags := 2, slot := 5, constantValue := 0 }, { name := "fileName", type := (.object "java/lang/String"), accessFlags := 2, slot := 6, constantValue := 0 }, { name := "lineNumber", type := .int, accessFlags := 2, slot := 7, constantValue := 0 }, { name := "format", type := .byte, accessFlags := 2, slot := 8, constantValue := 0 }, { name := "BUILTIN_CLASS_LOADER", type := .byte, accessFlags := 26, slot := 2, constantValue := 0 }, { name := "JDK_NON_UPGRADEABLE_MODULE", type := .byte, accessFlags := 26, slot := 3, constantValue := 0 }, { name := "serialVersionUID", type := .long, accessFlags := 26, slot := 4, constantValue := 0 }]
  methods := #[k30m0]
  instanceTypes := #[(.object "java/lang/Class"), (.object "java/lang/String"), (.object "java/lang/String"), (.object "java/lang/String"), (.object "java/lang/String"), (.object "java/lang/String"), (.object "java/lang/String"), .int, .byte]
  staticTypes := #[(.object "java/lang/String"), (.object "java/lang/String"), .byte, .byte, .long]
  resolved := Array.replicate 235 none
  statics := none }

def pool31 : Array CpInfo := pool [(1, u "java/lang/Cloneable"), (0, .class_ 1), (0, u "java/lang/Object"), (0, .class_ 3)] 3

/-- java/lang/Cloneable -/
def k31 : Class := { plain "java/lang/Cloneable" (some 0) with
  accessFlags := 1537
  interfaces := #[]
  cf := some (fileOf pool31 2 #[] #[] 1537 4 #[] #[])
  fields := #[]
  methods := #[]
  instanceTypes := #[]
  staticTypes := #[]
  resolved := Array.replicate 8 none
  statics := none }

/-- the primitive byte -/
def k32 : Class := { plain "byte" none with kind := .primitive 'B', accessFlags := 0x411 }
/-- [B -/
def k33 : Class := { plain "[B" (some 0) with kind := .array 32 .byte, interfaces := #[31, 3], accessFlags := 1041 }

/-- the primitive int -/
def k34 : Class := { plain "int" none with kind := .primitive 'I', accessFlags := 0x411 }
/-- [I -/
def k35 : Class := { plain "[I" (some 0) with kind := .array 34 .int, interfaces := #[31, 3], accessFlags := 1041 }

/-- [Ljava/lang/Object; -/
def k36 : Class := { plain "[Ljava/lang/Object;" (some 0) with kind := .array 0 (.object "java/lang/Object"), interfaces := #[31, 3], accessFlags := 1041 }

/-- [Ljava/lang/StackTraceElement; -/
def k37 : Class := { plain "[Ljava/lang/StackTraceElement;" (some 0) with kind := .array 30 (.object "java/lang/StackTraceElement"), interfaces := #[31, 3], accessFlags := 1041 }

/-- [Ljava/lang/Throwable; -/
def k38 : Class := { plain "[Ljava/lang/Throwable;" (some 0) with kind := .array 4 (.object "java/lang/Throwable"), interfaces := #[31, 3], accessFlags := 1041 }

def heap : Heap := #[{ cls := 4, slots := #[.long 0, .ref 6, .ref 7, .null, .null, .null, .null, .ref 8, .int 1], vm := .statics 4 },
  { cls := 13, slots := #[.long 0, .int 1, .null, .int 0, .null, .int 0, .int 0], vm := .statics 13 },
  { cls := 15, slots := #[.null, .ref 5, .null, .null, .null, .null], vm := .statics 15 },
  { cls := 20, slots := #[.int 0, .int 0, .int 0, .int 0, .int 0, .int 0, .int 0, .int 0, .null, .null, .ref 7, .null], vm := .statics 20 },
  { cls := 21, slots := #[.null, .null, .null], vm := .statics 21 },
  { cls := 15, slots := #[.null, .int 0, .int 0], vm := .none },
  { cls := 37, slots := #[], vm := .none },
  { cls := 29, slots := #[.int 0], vm := .none },
  { cls := 38, slots := #[], vm := .none }]
def classes : Array Class := #[k0, k1, k2, k3, k4, k5, k6, k7, k8, k9, k10, k11, k12, k13, k14, k15, k16, k17, k18, k19, k20, k21, k22, k23, k24, k25, k26, k27, k28, k29, k30, k31, k32, k33, k34, k35, k36, k37, k38]
def interned : List (Array UInt16 × Addr) := []
def slotsUsed : Nat := 41
def theMethod : MethodId := ⟨1, 1⟩
def args0 : Array Value := #[.int 5, .int 5, .int 5, .int 5, .int 5, .int 5]
def aboutOver (below : List Frame) : State where
  vm := { classes := classes, interned := interned.toArray }
  heap := heap
  slotsUsed := slotsUsed
  threads := #[{ frames := .invoking theMethod args0 :: below }]
def below0 : List Frame := [.native { method := ⟨0, 0⟩, args := #[] }]
def about1 : State := aboutOver below0
def p0 : Program := .bare "" "" ""
def e0 : Env := launch0.env 0 0 0
theorem w_frames : about1.frames = Frame.invoking theMethod args0 :: below0 := rfl
set_option maxRecDepth 65536 in
theorem w_args : argsFit about1.vm theMethod args0 = true := by decide +kernel
set_option maxRecDepth 65536 in
theorem w_heap : heapFits about1 = true := by decide +kernel
set_option maxRecDepth 65536 in
theorem w_runnable : about1.curStatus? = some .runnable := by decide +kernel
set_option maxRecDepth 65536 in
theorem w_alone : about1.alone = true := by decide +kernel
set_option maxRecDepth 65536 in
theorem w_named : about1.methodNamed? x = some theMethod := by decide +kernel
set_option maxRecDepth 65536 in
theorem w_hears : about1.hears theMethod below0 = true := by decide +kernel
set_option maxRecDepth 65536 in
theorem w_ripe : about1.ripe theMethod args0 below0 = true := by decide +kernel
theorem w_running : about1.status = .running := rfl
set_option maxRecDepth 65536 in
theorem w_room : about1.hasRoom e0.platform room_1 = true :=
  launch0.hasRoom_least _ room_1 (by decide +kernel) (by decide +kernel) (by decide +kernel) (by decide +kernel) (by decide +kernel) (by decide +kernel)
theorem allAtoms_all (ts : List Jvm.Cond) (a : Array Jvm.Value) (st : Jvm.State) : (allAtoms ts).before a st = ts.all (fun c => c.before a st) := by
  induction ts with
  | nil => rfl
  | cons c t ih =>
    show (Jvm.Cond.and c (allAtoms t)).before a st = _
    rw [Jvm.Cond.before_and, ih, List.all_cons]
def words1 : List Jvm.Cond := Jvm.Cond.code x code maxLocals ret :: tables_1
/-- a 'code' word, met by the world's own term for the bytes: nothing is compared byte by byte -/
theorem code_word {y : MethodName} {bytes : ByteArray} {mx : Nat} {rt : Option FieldType} {a : Array Value} {s : State} {m : MethodId} {meth : Method} {c : Code} (h1 : s.methodNamed? y = some m) (h2 : s.vm.method? m = some meth) (h3 : meth.code = some c) (h4 : c.code = bytes)
    (h5 : (c.maxLocals == mx && c.exceptionTable.isEmpty && decide (c.maxStack ≤ mostOperands) && decide (meth.sig.returnType = rt) && !meth.locks && decide (parseMethodDescriptor y.desc = some meth.sig)) = true) : (Jvm.Cond.code y bytes mx rt).before a s = true := by
  simp only [Bool.and_eq_true, beq_iff_eq, Bool.not_eq_true', decide_eq_true_eq] at h5
  obtain ⟨⟨⟨⟨⟨g1, g2⟩, g3⟩, g4⟩, g5⟩, g6⟩ := h5
  simp [Cond.before, Cond.holds, Cond.value, h1, h2, h3, h4, g1, g2, g3, g4, g5, g6]
def isCode : Jvm.Cond → Bool
  | .code _ _ _ _ => true
  | _ => false
theorem all_split {L : List Jvm.Cond} {P : Jvm.Cond → Bool} (h1 : L.all (fun c => isCode c || P c) = true) (h2 : ∀ c ∈ L.filter isCode, P c = true) : L.all P = true := by
  refine List.all_eq_true.mpr fun c hc => ?_
  have h := List.all_eq_true.mp h1 c hc
  rcases Bool.eq_false_or_eq_true (isCode c) with hi | hi
  · exact h2 c (List.mem_filter.mpr ⟨hc, hi⟩)
  · simpa [hi] using h
set_option maxRecDepth 65536 in
theorem w_c0 : (Jvm.Cond.code x code maxLocals ret).before args0 about1 = true := code_word (m := ⟨1, 1⟩) (meth := k1m1) (c := k1c1) (by decide +kernel) rfl rfl rfl (by decide +kernel)
set_option maxRecDepth 65536 in
theorem w_c1 : (Jvm.Cond.code ({ cls := "com/example/topsail/topsail/FirstRefusal", name := "<init>", desc := "()V" } : Jvm.MethodName) prog_2_method_1_code (1 : Nat) (Option.none : Option Jvm.ClassFile.FieldType)).before args0 about1 = true := code_word (m := ⟨2, 0⟩) (meth := k2m0) (c := k2c0) (by decide +kernel) rfl rfl rfl (by decide +kernel)
set_option maxRecDepth 65536 in
theorem w_c2 : (Jvm.Cond.code ({ cls := "java/lang/Object", name := "<init>", desc := "()V" } : Jvm.MethodName) object_method_1_code (1 : Nat) (Option.none : Option Jvm.ClassFile.FieldType)).before args0 about1 = true := code_word (m := ⟨0, 0⟩) (meth := k0m0) (c := k0c0) (by decide +kernel) rfl rfl rfl (by decide +kernel)
set_option maxRecDepth 65536 in
theorem w_c3 : (Jvm.Cond.code ({ cls := "com/example/topsail/topsail/FirstRefusal", name := "found", desc := "()Z" } : Jvm.MethodName) prog_2_method_4_code (1 : Nat) (Option.some Jvm.ClassFile.FieldType.boolean)).before args0 about1 = true := code_word (m := ⟨2, 2⟩) (meth := k2m2) (c := k2c2) (by decide +kernel) rfl rfl rfl (by decide +kernel)
set_option maxRecDepth 65536 in
theorem w_c4 : (Jvm.Cond.code ({ cls := "com/example/topsail/topsail/UnmatchableValueException", name := "<init>", desc := "(Ljava/lang/String;Ljava/lang/Throwable;)V" } : Jvm.MethodName) prog_16_method_1_code (3 : Nat) (Option.none : Option Jvm.ClassFile.FieldType)).before args0 about1 = true := code_word (m := ⟨8, 0⟩) (meth := k8m0) (c := k8c0) (by decide +kernel) rfl rfl rfl (by decide +kernel)
set_option maxRecDepth 65536 in
theorem w_c5 : (Jvm.Cond.code ({ cls := "com/example/topsail/topsail/TopsailException", name := "<init>", desc := "(Lcom/example/topsail/topsail/TopsailException$Kind;Ljava/lang/String;Ljava/lang/Throwable;)V" } : Jvm.MethodName) prog_14_method_2_code (4 : Nat) (Option.none : Option Jvm.ClassFile.FieldType)).before args0 about1 = true := code_word (m := ⟨7, 0⟩) (meth := k7m0) (c := k7c0) (by decide +kernel) rfl rfl rfl (by decide +kernel)
set_option maxRecDepth 65536 in
theorem w_c6 : (Jvm.Cond.code ({ cls := "java/lang/RuntimeException", name := "<init>", desc := "(Ljava/lang/String;Ljava/lang/Throwable;)V" } : Jvm.MethodName) jdk_58_method_3_code (3 : Nat) (Option.none : Option Jvm.ClassFile.FieldType)).before args0 about1 = true := code_word (m := ⟨6, 1⟩) (meth := k6m1) (c := k6c1) (by decide +kernel) rfl rfl rfl (by decide +kernel)
set_option maxRecDepth 65536 in
theorem w_c7 : (Jvm.Cond.code ({ cls := "java/lang/Exception", name := "<init>", desc := "(Ljava/lang/String;Ljava/lang/Throwable;)V" } : Jvm.MethodName) jdk_59_method_3_code (3 : Nat) (Option.none : Option Jvm.ClassFile.FieldType)).before args0 about1 = true := code_word (m := ⟨5, 1⟩) (meth := k5m1) (c := k5c1) (by decide +kernel) rfl rfl rfl (by decide +kernel)
set_option maxRecDepth 65536 in
theorem w_c8 : (Jvm.Cond.code ({ cls := "java/lang/Throwable", name := "<init>", desc := "(Ljava/lang/String;Ljava/lang/Throwable;)V" } : Jvm.MethodName) jdk_78_method_3_code (3 : Nat) (Option.none : Option Jvm.ClassFile.FieldType)).before args0 about1 = true := code_word (m := ⟨4, 1⟩) (meth := k4m1) (c := k4c1) (by decide +kernel) rfl rfl rfl (by decide +kernel)
set_option maxRecDepth 65536 in
theorem w_c9 : (Jvm.Cond.code ({ cls := "java/lang/Throwable", name := "<init>", desc := "()V" } : Jvm.MethodName) jdk_78_method_1_code (1 : Nat) (Option.none : Option Jvm.ClassFile.FieldType)).before args0 about1 = true := code_word (m := ⟨4, 0⟩) (meth := k4m0) (c := k4c0) (by decide +kernel) rfl rfl rfl (by decide +kernel)
set_option maxRecDepth 65536 in
theorem w_c10 : (Jvm.Cond.code ({ cls := "java/util/Objects", name := "requireNonNull", desc := "(Ljava/lang/Object;Ljava/lang/String;)Ljava/lang/Object;" } : Jvm.MethodName) jdk_31_method_11_code (2 : Nat) (Option.some (Jvm.ClassFile.FieldType.object "java/lang/Object"))).before args0 about1 = true := code_word (m := ⟨16, 1⟩) (meth := k16m1) (c := k16c1) (by decide +kernel) rfl rfl rfl (by decide +kernel)
set_option maxRecDepth 65536 in
theorem w_c11 : (Jvm.Cond.code ({ cls := "java/lang/String", name := "valueOf", desc := "(C)Ljava/lang/String;" } : Jvm.MethodName) jdk_42_method_139_code (1 : Nat) (Option.some (Jvm.ClassFile.FieldType.object "java/lang/String"))).before args0 about1 = true := code_word (m := ⟨13, 2⟩) (meth := k13m2) (c := k13c2) (by decide +kernel) rfl rfl rfl (by decide +kernel)
set_option maxRecDepth 65536 in
theorem w_c12 : (Jvm.Cond.code ({ cls := "java/lang/StringLatin1", name := "canEncode", desc := "(C)Z" } : Jvm.MethodName) jdk_43_method_3_code (1 : Nat) (Option.some Jvm.ClassFile.FieldType.boolean)).before args0 about1 = true := code_word (m := ⟨17, 1⟩) (meth := k17m1) (c := k17c1) (by decide +kernel) rfl rfl rfl (by decide +kernel)
set_option maxRecDepth 65536 in
theorem w_c13 : (Jvm.Cond.code ({ cls := "java/lang/StringLatin1", name := "toBytes", desc := "(C)[B" } : Jvm.MethodName) jdk_43_method_46_code (1 : Nat) (Option.some (Jvm.ClassFile.FieldType.array Jvm.ClassFile.FieldType.byte))).before args0 about1 = true := code_word (m := ⟨17, 5⟩) (meth := k17m5) (c := k17c5) (by decide +kernel) rfl rfl rfl (by decide +kernel)
set_option maxRecDepth 65536 in
theorem w_c14 : (Jvm.Cond.code ({ cls := "java/lang/String", name := "<init>", desc := "([BB)V" } : Jvm.MethodName) jdk_42_method_151_code (3 : Nat) (Option.none : Option Jvm.ClassFile.FieldType)).before args0 about1 = true := code_word (m := ⟨13, 3⟩) (meth := k13m3) (c := k13c3) (by decide +kernel) rfl rfl rfl (by decide +kernel)
set_option maxRecDepth 65536 in
theorem w_c15 : (Jvm.Cond.code ({ cls := "com/example/topsail/topsail/FirstRefusal", name := "offer", desc := "(Ljava/lang/String;ILcom/example/topsail/topsail/UnmatchableValueException;)V" } : Jvm.MethodName) prog_2_method_3_code (5 : Nat) (Option.none : Option Jvm.ClassFile.FieldType)).before args0 about1 = true := code_word (m := ⟨2, 1⟩) (meth := k2m1) (c := k2c1) (by decide +kernel) rfl rfl rfl (by decide +kernel)
set_option maxRecDepth 65536 in
theorem w_c16 : (Jvm.Cond.code ({ cls := "java/lang/String", name := "compareTo", desc := "(Ljava/lang/String;)I" } : Jvm.MethodName) jdk_42_method_71_code (5 : Nat) (Option.some Jvm.ClassFile.FieldType.int)).before args0 about1 = true := code_word (m := ⟨13, 1⟩) (meth := k13m1) (c := k13c1) (by decide +kernel) rfl rfl rfl (by decide +kernel)
set_option maxRecDepth 65536 in
theorem w_c17 : (Jvm.Cond.code ({ cls := "java/lang/String", name := "coder", desc := "()B" } : Jvm.MethodName) jdk_42_method_152_code (1 : Nat) (Option.some Jvm.ClassFile.FieldType.byte)).before args0 about1 = true := code_word (m := ⟨13, 4⟩) (meth := k13m4) (c := k13c4) (by decide +kernel) rfl rfl rfl (by decide +kernel)
set_option maxRecDepth 65536 in
theorem w_c18 : (Jvm.Cond.code ({ cls := "java/lang/StringLatin1", name := "compareTo", desc := "([B[B)I" } : Jvm.MethodName) jdk_43_method_14_code (4 : Nat) (Option.some Jvm.ClassFile.FieldType.int)).before args0 about1 = true := code_word (m := ⟨17, 2⟩) (meth := k17m2) (c := k17c2) (by decide +kernel) rfl rfl rfl (by decide +kernel)
set_option maxRecDepth 65536 in
theorem w_c19 : (Jvm.Cond.code ({ cls := "java/lang/StringLatin1", name := "compareTo", desc := "([B[BII)I" } : Jvm.MethodName) jdk_43_method_15_code (6 : Nat) (Option.some Jvm.ClassFile.FieldType.int)).before args0 about1 = true := code_word (m := ⟨17, 3⟩) (meth := k17m3) (c := k17c3) (by decide +kernel) rfl rfl rfl (by decide +kernel)
set_option maxRecDepth 65536 in
theorem w_c20 : (Jvm.Cond.code ({ cls := "java/lang/Math", name := "min", desc := "(II)I" } : Jvm.MethodName) jdk_29_method_69_code (2 : Nat) (Option.some Jvm.ClassFile.FieldType.int)).before args0 about1 = true := code_word (m := ⟨18, 1⟩) (meth := k18m1) (c := k18c1) (by decide +kernel) rfl rfl rfl (by decide +kernel)
set_option maxRecDepth 65536 in
theorem w_c21 : (Jvm.Cond.code ({ cls := "jdk/internal/util/ArraysSupport", name := "mismatch", desc := "([B[BI)I" } : Jvm.MethodName) jdk_48_method_13_code (4 : Nat) (Option.some Jvm.ClassFile.FieldType.int)).before args0 about1 = true := code_word (m := ⟨19, 1⟩) (meth := k19m1) (c := k19c1) (by decide +kernel) rfl rfl rfl (by decide +kernel)
set_option maxRecDepth 65536 in
theorem w_c22 : (Jvm.Cond.code ({ cls := "java/lang/StringLatin1", name := "getChar", desc := "([BI)C" } : Jvm.MethodName) jdk_43_method_44_code (2 : Nat) (Option.some Jvm.ClassFile.FieldType.char)).before args0 about1 = true := code_word (m := ⟨17, 4⟩) (meth := k17m4) (c := k17c4) (by decide +kernel) rfl rfl rfl (by decide +kernel)
def codes1 : List Jvm.Cond := [Jvm.Cond.code x code maxLocals ret, Jvm.Cond.code ({ cls := "com/example/topsail/topsail/FirstRefusal", name := "<init>", desc := "()V" } : Jvm.MethodName) prog_2_method_1_code (1 : Nat) (Option.none : Option Jvm.ClassFile.FieldType), Jvm.Cond.code ({ cls := "java/lang/Object", name := "<init>", desc := "()V" } : Jvm.MethodName) object_method_1_code (1 : Nat) (Option.none : Option Jvm.ClassFile.FieldType), Jvm.Cond.code ({ cls := "com/example/topsail/topsail/FirstRefusal", name := "found", desc := "()Z" } : Jvm.MethodName) prog_2_method_4_code (1 : Nat) (Option.some Jvm.ClassFile.FieldType.boolean), Jvm.Cond.code ({ cls := "com/example/topsail/topsail/UnmatchableValueException", name := "<init>", desc := "(Ljava/lang/String;Ljava/lang/Throwable;)V" } : Jvm.MethodName) prog_16_method_1_code (3 : Nat) (Option.none : Option Jvm.ClassFile.FieldType), Jvm.Cond.code ({ cls := "com/example/topsail/topsail/TopsailException", name := "<init>", desc := "(Lcom/example/topsail/topsail/TopsailException$Kind;Ljava/lang/String;Ljava/lang/Throwable;)V" } : Jvm.MethodName) prog_14_method_2_code (4 : Nat) (Option.none : Option Jvm.ClassFile.FieldType), Jvm.Cond.code ({ cls := "java/lang/RuntimeException", name := "<init>", desc := "(Ljava/lang/String;Ljava/lang/Throwable;)V" } : Jvm.MethodName) jdk_58_method_3_code (3 : Nat) (Option.none : Option Jvm.ClassFile.FieldType), Jvm.Cond.code ({ cls := "java/lang/Exception", name := "<init>", desc := "(Ljava/lang/String;Ljava/lang/Throwable;)V" } : Jvm.MethodName) jdk_59_method_3_code (3 : Nat) (Option.none : Option Jvm.ClassFile.FieldType), Jvm.Cond.code ({ cls := "java/lang/Throwable", name := "<init>", desc := "(Ljava/lang/String;Ljava/lang/Throwable;)V" } : Jvm.MethodName) jdk_78_method_3_code (3 : Nat) (Option.none : Option Jvm.ClassFile.FieldType), Jvm.Cond.code ({ cls := "java/lang/Throwable", name := "<init>", desc := "()V" } : Jvm.MethodName) jdk_78_method_1_code (1 : Nat) (Option.none : Option Jvm.ClassFile.FieldType), Jvm.Cond.code ({ cls := "java/util/Objects", name := "requireNonNull", desc := "(Ljava/lang/Object;Ljava/lang/String;)Ljava/lang/Object;" } : Jvm.MethodName) jdk_31_method_11_code (2 : Nat) (Option.some (Jvm.ClassFile.FieldType.object "java/lang/Object")), Jvm.Cond.code ({ cls := "java/lang/String", name := "valueOf", desc := "(C)Ljava/lang/String;" } : Jvm.MethodName) jdk_42_method_139_code (1 : Nat) (Option.some (Jvm.ClassFile.FieldType.object "java/lang/String")), Jvm.Cond.code ({ cls := "java/lang/StringLatin1", name := "canEncode", desc := "(C)Z" } : Jvm.MethodName) jdk_43_method_3_code (1 : Nat) (Option.some Jvm.ClassFile.FieldType.boolean), Jvm.Cond.code ({ cls := "java/lang/StringLatin1", name := "toBytes", desc := "(C)[B" } : Jvm.MethodName) jdk_43_method_46_code (1 : Nat) (Option.some (Jvm.ClassFile.FieldType.array Jvm.ClassFile.FieldType.byte)), Jvm.Cond.code ({ cls := "java/lang/String", name := "<init>", desc := "([BB)V" } : Jvm.MethodName) jdk_42_method_151_code (3 : Nat) (Option.none : Option Jvm.ClassFile.FieldType), Jvm.Cond.code ({ cls := "com/example/topsail/topsail/FirstRefusal", name := "offer", desc := "(Ljava/lang/String;ILcom/example/topsail/topsail/UnmatchableValueException;)V" } : Jvm.MethodName) prog_2_method_3_code (5 : Nat) (Option.none : Option Jvm.ClassFile.FieldType), Jvm.Cond.code ({ cls := "java/lang/String", name := "compareTo", desc := "(Ljava/lang/String;)I" } : Jvm.MethodName) jdk_42_method_71_code (5 : Nat) (Option.some Jvm.ClassFile.FieldType.int), Jvm.Cond.code ({ cls := "java/lang/String", name := "coder", desc := "()B" } : Jvm.MethodName) jdk_42_method_152_code (1 : Nat) (Option.some Jvm.ClassFile.FieldType.byte), Jvm.Cond.code ({ cls := "java/lang/StringLatin1", name := "compareTo", desc := "([B[B)I" } : Jvm.MethodName) jdk_43_method_14_code (4 : Nat) (Option.some Jvm.ClassFile.FieldType.int), Jvm.Cond.code ({ cls := "java/lang/StringLatin1", name := "compareTo", desc := "([B[BII)I" } : Jvm.MethodName) jdk_43_method_15_code (6 : Nat) (Option.some Jvm.ClassFile.FieldType.int), Jvm.Cond.code ({ cls := "java/lang/Math", name := "min", desc := "(II)I" } : Jvm.MethodName) jdk_29_method_69_code (2 : Nat) (Option.some Jvm.ClassFile.FieldType.int), Jvm.Cond.code ({ cls := "jdk/internal/util/ArraysSupport", name := "mismatch", desc := "([B[BI)I" } : Jvm.MethodName) jdk_48_method_13_code (4 : Nat) (Option.some Jvm.ClassFile.FieldType.int), Jvm.Cond.code ({ cls := "java/lang/StringLatin1", name := "getChar", desc := "([BI)C" } : Jvm.MethodName) jdk_43_method_44_code (2 : Nat) (Option.some Jvm.ClassFile.FieldType.char)]
set_option maxRecDepth 65536 in
theorem codes_eq : words1.filter isCode = codes1 := rfl
theorem w_codes : ∀ c ∈ words1.filter isCode, c.before args0 about1 = true := by
  rw [codes_eq]
  intro c hc
  simp only [codes1, List.mem_cons, List.not_mem_nil, or_false] at hc
  rcases hc with rfl | rfl | rfl | rfl | rfl | rfl | rfl | rfl | rfl | rfl | rfl | rfl | rfl | rfl | rfl | rfl | rfl | rfl | rfl | rfl | rfl | rfl | rfl
  · exact w_c0
  · exact w_c1
  · exact w_c2
  · exact w_c3
  · exact w_c4
  · exact w_c5
  · exact w_c6
  · exact w_c7
  · exact w_c8
  · exact w_c9
  · exact w_c10
  · exact w_c11
  · exact w_c12
  · exact w_c13
  · exact w_c14
  · exact w_c15
  · exact w_c16
  · exact w_c17
  · exact w_c18
  · exact w_c19
  · exact w_c20
  · exact w_c21
  · exact w_c22
set_option maxRecDepth 65536 in
theorem w_t1 : (words1.take 24).all (fun c => isCode c || c.before args0 about1) = true := by decide +kernel
set_option maxRecDepth 65536 in
theorem w_t2 : ((words1.drop 24).take 24).all (fun c => isCode c || c.before args0 about1) = true := by decide +kernel
set_option maxRecDepth 65536 in
theorem w_t3 : (((words1.drop 24).drop 24).take 24).all (fun c => isCode c || c.before args0 about1) = true := by decide +kernel
set_option maxRecDepth 65536 in
theorem w_t4 : ((((words1.drop 24).drop 24).drop 24).take 24).all (fun c => isCode c || c.before args0 about1) = true := by decide +kernel
set_option maxRecDepth 65536 in
theorem w_t5 : (((((words1.drop 24).drop 24).drop 24).drop 24).take 24).all (fun c => isCode c || c.before args0 about1) = true := by decide +kernel
set_option maxRecDepth 65536 in
theorem w_t6 : ((((((words1.drop 24).drop 24).drop 24).drop 24).drop 24).take 24).all (fun c => isCode c || c.before args0 about1) = true := by decide +kernel
set_option maxRecDepth 65536 in
theorem w_t7 : ((((((words1.drop 24).drop 24).drop 24).drop 24).drop 24).drop 24).all (fun c => isCode c || c.before args0 about1) = true := by decide +kernel
theorem w_tables : (allAtoms (Jvm.Cond.code x code maxLocals ret :: tables_1)).before args0 about1 = true := by
  rw [allAtoms_all]
  show words1.all (fun c => c.before args0 about1) = true
  refine all_split ?_ w_codes
  rw [← List.take_append_drop 24 words1, List.all_append, w_t1, ← List.take_append_drop 24 (words1.drop 24), List.all_append, w_t2, ← List.take_append_drop 24 ((words1.drop 24).drop 24), List.all_append, w_t3, ← List.take_append_drop 24 (((words1.drop 24).drop 24).drop 24), List.all_append, w_t4, ← List.take_append_drop 24 ((((words1.drop 24).drop 24).drop 24).drop 24), List.all_append, w_t5, ← List.take_append_drop 24 (((((words1.drop 24).drop 24).drop 24).drop 24).drop 24), List.all_append, w_t6, w_t7]
  rfl
set_option maxRecDepth 65536 in
theorem w_rest : rest_1_c.before args0 about1 = true := by decide +kernel
set_option maxRecDepth 65536 in
theorem w_case : (Jvm.Cond.and given_1 narrow_1).before args0 about1 = true := by decide +kernel
theorem w_applies : (headSpec (Jvm.Cond.code x code maxLocals ret :: tables_1) room_1).applies x e0.platform about1 = true :=
  (Spec.applies_iff w_frames).mpr ⟨w_running, w_runnable, w_alone, w_named, w_hears, w_ripe, w_room, w_tables⟩
theorem atStart : AtStart classFile x code maxLocals ret World_1 tables_1 room_1 Calls_1 rest_1 Pre_1 launch0 p0 e0 about1 theMethod args0 below0 :=
  ⟨lists_1, trivial, launch0.admits_env _ _ _, launch0.least_env, fairChoices_fair.cas, fairChoices_fair.clock, w_frames, w_args, w_heap, w_applies, ⟨(by decide +kernel : framesKnown about1 = true), ⟨(by decide +kernel : tablesKnown about1 = true), trivial⟩⟩, w_rest, w_case⟩
end start1
theorem witness_1 : WitnessClaimed_1 := ⟨start1.p0, start1.e0, start1.about1, start1.theMethod, start1.args0, start1.below0, start1.atStart⟩
end Jvm.Pilot.@@N@@
