import JvmDerived
import JvmDerived.Pilot.@@N@@Statement
import JvmDerived.Pilot.@@N@@Code
set_option linter.unusedVariables false
set_option linter.unusedSimpArgs false
namespace Jvm.RoadKit
open Sem ClassFile Op Lib Jvm.Stand Jvm.Free Jvm.LawKit
section New
variable {p : Program} {l : Launch} {e : Env} {R : Room} {s : State} {m : MethodId} {args : Array Value} {below : List Frame} {meth : Method} {c : Code} {T : State} {locs : List Loc} {cells slots : Nat}
theorem retI (X : Stand p l e R s m args below meth c T locs cells slots) (hx : p.tables.exec = Jvm.exec) {pc : Nat} {Ls : Array Slot} {z : Int32} {rest : List Value} (hret : meth.sig.returnType = some .int) (hd : decode c.code pc = .ok (.ireturn, 1)) {fs : List Frame}
    (hl : ∀ (f : JFrame) (acts : List Action), f.method = m → f.locked = none → f.entered = [] → (doReturn e (T.setTop f) acts (some (.int z))).1 = T.setFrames fs) : Steps p.tables e below (T.setTop (mkF m pc Ls (.int z :: rest))) (T.setFrames fs) := by
  have hm' : T.vm.method? m = some meth := X.method'
  have hn : narrow .int (.int z) = .int z := rfl
  show Steps p.tables e below (T.setTop { method := m, pc := pc, locals := Ls, stack := _ :: rest, locked := none }) _
  jvm_step X.here [X.here.top, hx, hd, hm', hret, hn]
  first | (intro acts; rw [hl _ acts rfl rfl rfl]) | rw [hl _ _ rfl rfl rfl]
  exact Steps.refl _
end New
end Jvm.RoadKit
namespace Jvm.Pilot.@@N@@
open Jvm Jvm.ClassFile Sem Op Lib Jvm.Free Jvm.Stand Jvm.LawKit Jvm.RoadKit Bundle Jvm.Pilot.@@N@@.Jvm.D
/-! OWN KIT: a walk as one forward chain. OwF: from frame f at T the run ends, and D says how. OwC: the setting of a body. OwCon: a body's contract. -/
section OwnKit
variable {p : Program} {l : Launch} {e : Env} {R : Room} {s : State} {m : MethodId} {args : Array Value} {below : List Frame} {meth : Method} {c : Code} {T : State} {locs : List Loc} {cells slots : Nat} {Z : State} {a0 : Array Value} {h : Heap}
variable {own nm : String} {bytes : ByteArray} {maxL : Nat} {ret : Option FieldType} {D : State → Outcome → Prop} {pc pc' : Nat} {Ls : Array Slot} {r : List Value}
def OwF (p : Program) (e : Env) (below : List Frame) (D : State → Outcome → Prop) (T : State) (f : JFrame) : Prop := ∃ t o, Steps p.tables e below (T.setTop f) t ∧ D t o
def OwC (p : Program) (Z s : State) (m : MethodId) (meth : Method) (c : Code) (own nm : String) (bytes : ByteArray) (maxL : Nat) (ret : Option FieldType) : Prop :=
  p.tables.exec = Jvm.exec ∧ c.code = bytes ∧ c.maxLocals = maxL ∧ s.vm.findClass own = some m.cls ∧ meth.name = nm ∧ meth.sig.returnType = ret ∧ meth.locks = false ∧ Z.Warmed39 s.vm
def OwD (s : State) (below : List Frame) (Q : Option Value → Heap → List Loc → Prop) (kc ks : Nat) (t : State) (o : Outcome) : Prop :=
  t.status = .running ∧ Ended t below o ∧ ∃ v L, o = .returned v ∧ Q v t.heap L ∧ FrameEnd s o t L kc ks
def OwCon (l : Launch) (y : MethodName) (bytes : ByteArray) (maxL : Nat) (ret : Option FieldType) (rm : Room) (Z : State) (as' : Array Value) (h : Heap) (Q : Option Value → Heap → List Loc → Prop) : Prop :=
  ∀ ws, MetFree l y (head1 (Jvm.Cond.code y bytes maxL ret :: ws) rm) (fun a U => a = as' ∧ Z.Warmed39 U.vm ∧ U.heap = h) (fun _ _ _ _ _ => True) (fun _ U o U' => ∃ v L, o = .returned v ∧ Q v U'.heap L ∧ FrameEnd U o U' L rm.cells rm.slots)
theorem OwF.st {T' : State} {f f' : JFrame} (h : ∀ t, Steps p.tables e below (T'.setTop f') t → Steps p.tables e below (T.setTop f) t) (k : OwF p e below D T' f') : OwF p e below D T f := by
  obtain ⟨t, o, q, d⟩ := k; exact ⟨t, o, h t q, d⟩
theorem OwCon.of {y : MethodName} {rm : Room} {as' : Array Value} {Q : Option Value → Heap → List Loc → Prop} (hpl : plainFor y = true) {Ls : Array Slot} (hent : ∀ m, entryFrame m as' maxL = mkF m 0 Ls [])
    (body : ∀ (p : Program) (e : Env) (s : State) (m : MethodId) (below : List Frame) (meth : Method) (c : Code) (s₁ : State), OwC p Z s m meth c y.cls y.name bytes maxL ret → Stand p l e rm s m as' below meth c s₁ [] 0 0 → s₁.heap = h → OwF p e below (OwD s below Q rm.cells rm.slots) s₁ (mkF m 0 Ls [])) :
    OwCon l y bytes maxL ret rm Z as' h Q := by
  intro ws
  refine MetFree.of_bodySF hpl hisR ?_
  intro p e s m args below meth c s₁ Bd hml0 hP hK
  obtain ⟨rfl, hZ, hh⟩ := hP
  have X0 : Stand p l e rm s m args below meth c s₁ [] 0 0 := Stand.of_body Bd
  obtain ⟨t, o, h1, h2, h3, h4⟩ := body p e s m below meth c s₁ ⟨Bd.exec, Bd.bytes, hml0, findClass_of_methodNamed Bd.named, (name_of_methodNamed Bd.named Bd.method).1, Bd.returns, BodyLoose.notSynchronized Bd, hZ⟩ X0 (by rw [← hh, Bd.state]; rfl)
  exact ⟨t, o, castTop (hent m) h1, h2, h3, h4⟩
/-- a contract may say less -/
theorem OwCon.mono {y : MethodName} {rm : Room} {as' : Array Value} {Q Q' : Option Value → Heap → List Loc → Prop} (M : OwCon l y bytes maxL ret rm Z as' h Q) (hq : ∀ v h' L, Q v h' L → Q' v h' L) : OwCon l y bytes maxL ret rm Z as' h Q' := by
  intro ws p e ha hc hk s m args below hf happ hP hK
  obtain ⟨n, o, h1, h2, h3, v, L, h4, h5, h6⟩ := M ws p e ha hc hk s m args below hf happ hP hK
  exact ⟨n, o, h1, h2, h3, v, L, h4, hq _ _ _ h5, h6⟩
/-- two roads that meet -/
theorem ow_join {f f' : JFrame} (X : Stand p l e R s m args below meth c T locs cells slots) (eT : T.heap = h) (A : ∀ D : State → Outcome → Prop, (∀ T', Stand p l e R s m args below meth c T' locs cells slots → T'.heap = h → OwF p e below D T' f') → OwF p e below D T f)
    (k : ∀ T', Stand p l e R s m args below meth c T' locs cells slots → T'.heap = h → OwF p e below D T' f') : OwF p e below D T f := A D k
/-- a long or nothing, in two places -/
def OwTwo (x y : Slot) : Prop := (x = .unset ∧ y = .unset) ∨ ∃ v : Int64, x = .val (.long v) ∧ y = .second
/-- two roads that meet, with locals that are read no more -/
theorem ow_joinL {f : JFrame} {r' : List Value} {P : Array Slot → Prop} (X : Stand p l e R s m args below meth c T locs cells slots) (eT : T.heap = h) (A : ∀ D : State → Outcome → Prop, (∀ Ls' T', P Ls' → Stand p l e R s m args below meth c T' locs cells slots → T'.heap = h → OwF p e below D T' (mkF m pc' Ls' r')) → OwF p e below D T f)
    (k : ∀ Ls' T', P Ls' → Stand p l e R s m args below meth c T' locs cells slots → T'.heap = h → OwF p e below D T' (mkF m pc' Ls' r')) : OwF p e below D T f := A D k
/-! returns -/
theorem ow_retI {Q : Option Value → Heap → List Loc → Prop} {kc ks : Nat} {z : Int32} (C : OwC p Z s m meth c own nm bytes maxL (some .int)) (X : Stand p l e R s m args below meth c T locs cells slots) (hd : decode bytes pc = .ok (.ireturn, 1)) (hc : cells ≤ kc) (hs : slots ≤ ks)
    (hQ : Q (some (.int z)) T.heap locs) : OwF p e below (OwD s below Q kc ks) T (mkF m pc Ls (.int z :: r)) := by
  obtain ⟨hx, hby, -, -, -, hret, hlk, -⟩ := C
  obtain ⟨fs, hr, hrun, hended, hW, hsame⟩ := X.leave (v := some (.int z)) (fun h => by rw [hret] at h; cases h) hlk
  exact ⟨_, _, retI X hx hret (hb hby hd) hr, hrun, hended, _, _, rfl, hQ, ⟨_, rfl⟩, hW, hsame.mono hc hs⟩
theorem ow_retZ {Q : Option Value → Heap → List Loc → Prop} {kc ks : Nat} {z : Int32} (C : OwC p Z s m meth c own nm bytes maxL (some .boolean)) (X : Stand p l e R s m args below meth c T locs cells slots) (hd : decode bytes pc = .ok (.ireturn, 1)) (hc : cells ≤ kc) (hs : slots ≤ ks) (hz : z = 0 ∨ z = 1)
    (hQ : Q (some (.int z)) T.heap locs) : OwF p e below (OwD s below Q kc ks) T (mkF m pc Ls (.int z :: r)) := by
  obtain ⟨hx, hby, -, -, -, hret, hlk, -⟩ := C
  have hn : nar .boolean z = z := by rcases hz with rfl | rfl <;> decide
  obtain ⟨fs, hr, hrun, hended, hW, hsame⟩ := X.leave (v := some (.int z)) (fun h => by rw [hret] at h; cases h) hlk
  exact ⟨_, _, retN X hx hret (by simp) (hb hby hd) (by rw [hn]; exact hr), hrun, hended, _, _, rfl, hQ, ⟨_, rfl⟩, hW, hsame.mono hc hs⟩
theorem ow_retJ {Q : Option Value → Heap → List Loc → Prop} {kc ks : Nat} {z : Int64} (C : OwC p Z s m meth c own nm bytes maxL (some .long)) (X : Stand p l e R s m args below meth c T locs cells slots) (hd : decode bytes pc = .ok (.lreturn, 1)) (hc : cells ≤ kc) (hs : slots ≤ ks)
    (hQ : Q (some (.long z)) T.heap locs) : OwF p e below (OwD s below Q kc ks) T (mkF m pc Ls [.long z]) := by
  obtain ⟨hx, hby, -, -, -, hret, hlk, -⟩ := C
  obtain ⟨fs, hr, hrun, hended, hW, hsame⟩ := X.leave (v := some (.long z)) (fun h => by rw [hret] at h; cases h) hlk
  exact ⟨_, _, X.lreturnOut hx hret (hb hby hd) hr, hrun, hended, _, _, rfl, hQ, ⟨_, rfl⟩, hW, hsame.mono hc hs⟩
theorem ow_retV {Q : Option Value → Heap → List Loc → Prop} {kc ks : Nat} (C : OwC p Z s m meth c own nm bytes maxL none) (X : Stand p l e R s m args below meth c T locs cells slots) (hd : decode bytes pc = .ok (.return_, 1)) (hc : cells ≤ kc) (hs : slots ≤ ks)
    (hQ : Q none T.heap locs) : OwF p e below (OwD s below Q kc ks) T (mkF m pc Ls []) := by
  obtain ⟨hx, hby, -, -, -, hret, hlk, -⟩ := C
  obtain ⟨fs, hr, hrun, hended, hW, hsame⟩ := X.leave (v := none) (fun _ => rfl) hlk
  exact ⟨_, _, X.returnOut hx hret (hb hby hd) hr, hrun, hended, _, _, rfl, hQ, ⟨_, rfl⟩, hW, hsame.mono hc hs⟩
end OwnKit
section OwnSteps
variable {p : Program} {l : Launch} {e : Env} {R : Room} {s : State} {m : MethodId} {args : Array Value} {below : List Frame} {meth : Method} {c : Code} {T : State} {locs : List Loc} {cells slots : Nat} {Z : State} {a0 : Array Value} {h : Heap}
variable {own nm : String} {bytes : ByteArray} {maxL : Nat} {ret : Option FieldType} {D : State → Outcome → Prop} {pc pc' pcT : Nat} {Ls Ls' : Array Slot} {r : List Value}
theorem ow_iadd {x y : Int32} (C : OwC p Z s m meth c own nm bytes maxL ret) (X : Stand p l e R s m args below meth c T locs cells slots) (hd : decode bytes pc = .ok (.iadd, 1))  (hp : pc + 1 = pc') (k : OwF p e below D T (mkF m pc' Ls (.int (x + y) :: r))) : OwF p e below D T (mkF m pc Ls (.int y :: .int x :: r)) := by
  subst hp; exact OwF.st (fun _ q => XS.iadd X.here C.1 rfl (hb C.2.1 hd) rfl q) k
theorem ow_isub {x y : Int32} (C : OwC p Z s m meth c own nm bytes maxL ret) (X : Stand p l e R s m args below meth c T locs cells slots) (hd : decode bytes pc = .ok (.isub, 1))  (hp : pc + 1 = pc') (k : OwF p e below D T (mkF m pc' Ls (.int (x - y) :: r))) : OwF p e below D T (mkF m pc Ls (.int y :: .int x :: r)) := by
  subst hp; exact OwF.st (fun _ q => XS.isub X.here C.1 rfl (hb C.2.1 hd) rfl q) k
theorem ow_imul {x y : Int32} (C : OwC p Z s m meth c own nm bytes maxL ret) (X : Stand p l e R s m args below meth c T locs cells slots) (hd : decode bytes pc = .ok (.imul, 1))  (hp : pc + 1 = pc') (k : OwF p e below D T (mkF m pc' Ls (.int (x * y) :: r))) : OwF p e below D T (mkF m pc Ls (.int y :: .int x :: r)) := by
  subst hp; exact OwF.st (fun _ q => XS.imul X.here C.1 rfl (hb C.2.1 hd) rfl q) k
theorem ow_iand {x y : Int32} (C : OwC p Z s m meth c own nm bytes maxL ret) (X : Stand p l e R s m args below meth c T locs cells slots) (hd : decode bytes pc = .ok (.iand, 1))  (hp : pc + 1 = pc') (k : OwF p e below D T (mkF m pc' Ls (.int (x &&& y) :: r))) : OwF p e below D T (mkF m pc Ls (.int y :: .int x :: r)) := by
  subst hp; exact OwF.st (fun _ q => XS.iand X.here C.1 rfl (hb C.2.1 hd) rfl q) k
theorem ow_ior {x y : Int32} (C : OwC p Z s m meth c own nm bytes maxL ret) (X : Stand p l e R s m args below meth c T locs cells slots) (hd : decode bytes pc = .ok (.ior, 1))  (hp : pc + 1 = pc') (k : OwF p e below D T (mkF m pc' Ls (.int (x ||| y) :: r))) : OwF p e below D T (mkF m pc Ls (.int y :: .int x :: r)) := by
  subst hp; exact OwF.st (fun _ q => XT.ior X.here C.1 rfl (hb C.2.1 hd) rfl q) k
theorem ow_ixor {x y : Int32} (C : OwC p Z s m meth c own nm bytes maxL ret) (X : Stand p l e R s m args below meth c T locs cells slots) (hd : decode bytes pc = .ok (.ixor, 1))  (hp : pc + 1 = pc') (k : OwF p e below D T (mkF m pc' Ls (.int (x ^^^ y) :: r))) : OwF p e below D T (mkF m pc Ls (.int y :: .int x :: r)) := by
  subst hp; exact OwF.st (fun _ q => XT.ixor X.here C.1 rfl (hb C.2.1 hd) rfl q) k
theorem ow_ishl {x y : Int32} (C : OwC p Z s m meth c own nm bytes maxL ret) (X : Stand p l e R s m args below meth c T locs cells slots) (hd : decode bytes pc = .ok (.ishl, 1))  (hp : pc + 1 = pc') (k : OwF p e below D T (mkF m pc' Ls (.int (x <<< (y &&& 31)) :: r))) : OwF p e below D T (mkF m pc Ls (.int y :: .int x :: r)) := by
  subst hp; exact OwF.st (fun _ q => XT.ishl X.here C.1 rfl (hb C.2.1 hd) rfl q) k
theorem ow_ishr {x y : Int32} (C : OwC p Z s m meth c own nm bytes maxL ret) (X : Stand p l e R s m args below meth c T locs cells slots) (hd : decode bytes pc = .ok (.ishr, 1))  (hp : pc + 1 = pc') (k : OwF p e below D T (mkF m pc' Ls (.int (x >>> (y &&& 31)) :: r))) : OwF p e below D T (mkF m pc Ls (.int y :: .int x :: r)) := by
  subst hp; exact OwF.st (fun _ q => XT.ishr X.here C.1 rfl (hb C.2.1 hd) rfl q) k
theorem ow_iushr {x y : Int32} (C : OwC p Z s m meth c own nm bytes maxL ret) (X : Stand p l e R s m args below meth c T locs cells slots) (hd : decode bytes pc = .ok (.iushr, 1))  (hp : pc + 1 = pc') (k : OwF p e below D T (mkF m pc' Ls (.int (XT.ushr x y) :: r))) : OwF p e below D T (mkF m pc Ls (.int y :: .int x :: r)) := by
  subst hp; exact OwF.st (fun _ q => XT.iushr X.here C.1 rfl (hb C.2.1 hd) rfl q) k
theorem ow_idiv {x y : Int32} (C : OwC p Z s m meth c own nm bytes maxL ret) (X : Stand p l e R s m args below meth c T locs cells slots) (hd : decode bytes pc = .ok (.idiv, 1)) (hy : y ≠ 0) (hp : pc + 1 = pc') (k : OwF p e below D T (mkF m pc' Ls (.int (x / y) :: r))) : OwF p e below D T (mkF m pc Ls (.int y :: .int x :: r)) := by
  subst hp; exact OwF.st (fun _ q => XS.idiv X.here C.1 rfl (hb C.2.1 hd) rfl hy q) k
theorem ow_irem {x y : Int32} (C : OwC p Z s m meth c own nm bytes maxL ret) (X : Stand p l e R s m args below meth c T locs cells slots) (hd : decode bytes pc = .ok (.irem, 1)) (hy : y ≠ 0) (hp : pc + 1 = pc') (k : OwF p e below D T (mkF m pc' Ls (.int (x - (x / y) * y) :: r))) : OwF p e below D T (mkF m pc Ls (.int y :: .int x :: r)) := by
  subst hp; exact OwF.st (fun _ q => XS.irem X.here C.1 rfl (hb C.2.1 hd) rfl hy q) k
theorem ow_ladd {x y : Int64} (C : OwC p Z s m meth c own nm bytes maxL ret) (X : Stand p l e R s m args below meth c T locs cells slots) (hd : decode bytes pc = .ok (.ladd, 1))  (hp : pc + 1 = pc') (k : OwF p e below D T (mkF m pc' Ls (.long (x + y) :: r))) : OwF p e below D T (mkF m pc Ls (.long y :: .long x :: r)) := by
  subst hp; exact OwF.st (fun _ q => XT.ladd X.here C.1 rfl (hb C.2.1 hd) rfl q) k
theorem ow_lsub {x y : Int64} (C : OwC p Z s m meth c own nm bytes maxL ret) (X : Stand p l e R s m args below meth c T locs cells slots) (hd : decode bytes pc = .ok (.lsub, 1))  (hp : pc + 1 = pc') (k : OwF p e below D T (mkF m pc' Ls (.long (x - y) :: r))) : OwF p e below D T (mkF m pc Ls (.long y :: .long x :: r)) := by
  subst hp; exact OwF.st (fun _ q => XT.lsub X.here C.1 rfl (hb C.2.1 hd) rfl q) k
theorem ow_lmul {x y : Int64} (C : OwC p Z s m meth c own nm bytes maxL ret) (X : Stand p l e R s m args below meth c T locs cells slots) (hd : decode bytes pc = .ok (.lmul, 1))  (hp : pc + 1 = pc') (k : OwF p e below D T (mkF m pc' Ls (.long (x * y) :: r))) : OwF p e below D T (mkF m pc Ls (.long y :: .long x :: r)) := by
  subst hp; exact OwF.st (fun _ q => XT.lmul X.here C.1 rfl (hb C.2.1 hd) rfl q) k
theorem ow_land {x y : Int64} (C : OwC p Z s m meth c own nm bytes maxL ret) (X : Stand p l e R s m args below meth c T locs cells slots) (hd : decode bytes pc = .ok (.land, 1))  (hp : pc + 1 = pc') (k : OwF p e below D T (mkF m pc' Ls (.long (x &&& y) :: r))) : OwF p e below D T (mkF m pc Ls (.long y :: .long x :: r)) := by
  subst hp; exact OwF.st (fun _ q => XT.land X.here C.1 rfl (hb C.2.1 hd) rfl q) k
theorem ow_lor {x y : Int64} (C : OwC p Z s m meth c own nm bytes maxL ret) (X : Stand p l e R s m args below meth c T locs cells slots) (hd : decode bytes pc = .ok (.lor, 1))  (hp : pc + 1 = pc') (k : OwF p e below D T (mkF m pc' Ls (.long (x ||| y) :: r))) : OwF p e below D T (mkF m pc Ls (.long y :: .long x :: r)) := by
  subst hp; exact OwF.st (fun _ q => XT.lor X.here C.1 rfl (hb C.2.1 hd) rfl q) k
theorem ow_lxor {x y : Int64} (C : OwC p Z s m meth c own nm bytes maxL ret) (X : Stand p l e R s m args below meth c T locs cells slots) (hd : decode bytes pc = .ok (.lxor, 1))  (hp : pc + 1 = pc') (k : OwF p e below D T (mkF m pc' Ls (.long (x ^^^ y) :: r))) : OwF p e below D T (mkF m pc Ls (.long y :: .long x :: r)) := by
  subst hp; exact OwF.st (fun _ q => XT.lxor X.here C.1 rfl (hb C.2.1 hd) rfl q) k
theorem ow_ldiv {x y : Int64} (C : OwC p Z s m meth c own nm bytes maxL ret) (X : Stand p l e R s m args below meth c T locs cells slots) (hd : decode bytes pc = .ok (.ldiv, 1)) (hy : y ≠ 0) (hp : pc + 1 = pc') (k : OwF p e below D T (mkF m pc' Ls (.long (x / y) :: r))) : OwF p e below D T (mkF m pc Ls (.long y :: .long x :: r)) := by
  subst hp; exact OwF.st (fun _ q => XT.ldiv X.here C.1 rfl (hb C.2.1 hd) rfl hy q) k
theorem ow_lrem {x y : Int64} (C : OwC p Z s m meth c own nm bytes maxL ret) (X : Stand p l e R s m args below meth c T locs cells slots) (hd : decode bytes pc = .ok (.lrem, 1)) (hy : y ≠ 0) (hp : pc + 1 = pc') (k : OwF p e below D T (mkF m pc' Ls (.long (x - (x / y) * y) :: r))) : OwF p e below D T (mkF m pc Ls (.long y :: .long x :: r)) := by
  subst hp; exact OwF.st (fun _ q => XT.lrem X.here C.1 rfl (hb C.2.1 hd) rfl hy q) k
theorem ow_lshl {x : Int64} {y : Int32} (C : OwC p Z s m meth c own nm bytes maxL ret) (X : Stand p l e R s m args below meth c T locs cells slots) (hd : decode bytes pc = .ok (.lshl, 1))  (hp : pc + 1 = pc') (k : OwF p e below D T (mkF m pc' Ls (.long (x <<< (y.toInt64 &&& 63)) :: r))) : OwF p e below D T (mkF m pc Ls (.int y :: .long x :: r)) := by
  subst hp; exact OwF.st (fun _ q => XT.lshl X.here C.1 rfl (hb C.2.1 hd) rfl q) k
theorem ow_lshr {x : Int64} {y : Int32} (C : OwC p Z s m meth c own nm bytes maxL ret) (X : Stand p l e R s m args below meth c T locs cells slots) (hd : decode bytes pc = .ok (.lshr, 1))  (hp : pc + 1 = pc') (k : OwF p e below D T (mkF m pc' Ls (.long (x >>> (y.toInt64 &&& 63)) :: r))) : OwF p e below D T (mkF m pc Ls (.int y :: .long x :: r)) := by
  subst hp; exact OwF.st (fun _ q => XT.lshr X.here C.1 rfl (hb C.2.1 hd) rfl q) k
theorem ow_lushr {x : Int64} {y : Int32} (C : OwC p Z s m meth c own nm bytes maxL ret) (X : Stand p l e R s m args below meth c T locs cells slots) (hd : decode bytes pc = .ok (.lushr, 1))  (hp : pc + 1 = pc') (k : OwF p e below D T (mkF m pc' Ls (.long (XT.ushrL x y) :: r))) : OwF p e below D T (mkF m pc Ls (.int y :: .long x :: r)) := by
  subst hp; exact OwF.st (fun _ q => XT.lushr X.here C.1 rfl (hb C.2.1 hd) rfl q) k
theorem ow_lcmp {x y : Int64} (C : OwC p Z s m meth c own nm bytes maxL ret) (X : Stand p l e R s m args below meth c T locs cells slots) (hd : decode bytes pc = .ok (.lcmp, 1))  (hp : pc + 1 = pc') (k : OwF p e below D T (mkF m pc' Ls (.int (XT.cmpL x y) :: r))) : OwF p e below D T (mkF m pc Ls (.long y :: .long x :: r)) := by
  subst hp; exact OwF.st (fun _ q => XT.lcmp X.here C.1 rfl (hb C.2.1 hd) rfl q) k
theorem ow_ineg {x : Int32} (C : OwC p Z s m meth c own nm bytes maxL ret) (X : Stand p l e R s m args below meth c T locs cells slots) (hd : decode bytes pc = .ok (.ineg, 1))  (hp : pc + 1 = pc') (k : OwF p e below D T (mkF m pc' Ls (.int (-x) :: r))) : OwF p e below D T (mkF m pc Ls (.int x :: r)) := by
  subst hp; exact OwF.st (fun _ q => XS.ineg X.here C.1 rfl (hb C.2.1 hd) rfl q) k
theorem ow_lneg {x : Int64} (C : OwC p Z s m meth c own nm bytes maxL ret) (X : Stand p l e R s m args below meth c T locs cells slots) (hd : decode bytes pc = .ok (.lneg, 1))  (hp : pc + 1 = pc') (k : OwF p e below D T (mkF m pc' Ls (.long (-x) :: r))) : OwF p e below D T (mkF m pc Ls (.long x :: r)) := by
  subst hp; exact OwF.st (fun _ q => XT.lneg X.here C.1 rfl (hb C.2.1 hd) rfl q) k
theorem ow_i2l {x : Int32} (C : OwC p Z s m meth c own nm bytes maxL ret) (X : Stand p l e R s m args below meth c T locs cells slots) (hd : decode bytes pc = .ok (.i2l, 1))  (hp : pc + 1 = pc') (k : OwF p e below D T (mkF m pc' Ls (.long x.toInt64 :: r))) : OwF p e below D T (mkF m pc Ls (.int x :: r)) := by
  subst hp; exact OwF.st (fun _ q => XT.i2l X.here C.1 rfl (hb C.2.1 hd) rfl q) k
theorem ow_l2i {x : Int64} (C : OwC p Z s m meth c own nm bytes maxL ret) (X : Stand p l e R s m args below meth c T locs cells slots) (hd : decode bytes pc = .ok (.l2i, 1))  (hp : pc + 1 = pc') (k : OwF p e below D T (mkF m pc' Ls (.int x.toInt32 :: r))) : OwF p e below D T (mkF m pc Ls (.long x :: r)) := by
  subst hp; exact OwF.st (fun _ q => XT.l2i X.here C.1 rfl (hb C.2.1 hd) rfl q) k
theorem ow_i2b {x : Int32} (C : OwC p Z s m meth c own nm bytes maxL ret) (X : Stand p l e R s m args below meth c T locs cells slots) (hd : decode bytes pc = .ok (.i2b, 1))  (hp : pc + 1 = pc') (k : OwF p e below D T (mkF m pc' Ls (.int x.toInt8.toInt32 :: r))) : OwF p e below D T (mkF m pc Ls (.int x :: r)) := by
  subst hp; exact OwF.st (fun _ q => XT.i2b X.here C.1 rfl (hb C.2.1 hd) rfl q) k
theorem ow_i2c {x : Int32} (C : OwC p Z s m meth c own nm bytes maxL ret) (X : Stand p l e R s m args below meth c T locs cells slots) (hd : decode bytes pc = .ok (.i2c, 1))  (hp : pc + 1 = pc') (k : OwF p e below D T (mkF m pc' Ls (.int x.toUInt32.toUInt16.toUInt32.toInt32 :: r))) : OwF p e below D T (mkF m pc Ls (.int x :: r)) := by
  subst hp; exact OwF.st (fun _ q => XT.i2c X.here C.1 rfl (hb C.2.1 hd) rfl q) k
theorem ow_i2s {x : Int32} (C : OwC p Z s m meth c own nm bytes maxL ret) (X : Stand p l e R s m args below meth c T locs cells slots) (hd : decode bytes pc = .ok (.i2s, 1))  (hp : pc + 1 = pc') (k : OwF p e below D T (mkF m pc' Ls (.int x.toInt16.toInt32 :: r))) : OwF p e below D T (mkF m pc Ls (.int x :: r)) := by
  subst hp; exact OwF.st (fun _ q => XT.i2s X.here C.1 rfl (hb C.2.1 hd) rfl q) k
theorem ow_dup {v : Value} (C : OwC p Z s m meth c own nm bytes maxL ret) (X : Stand p l e R s m args below meth c T locs cells slots) (hd : decode bytes pc = .ok (.dup, 1)) (hc : v.category = 1) (hp : pc + 1 = pc') (k : OwF p e below D T (mkF m pc' Ls (v :: v :: r))) : OwF p e below D T (mkF m pc Ls (v :: r)) := by
  subst hp; exact OwF.st (fun _ q => XS.dup X.here C.1 rfl (hb C.2.1 hd) rfl hc q) k
theorem ow_pop {v : Value} (C : OwC p Z s m meth c own nm bytes maxL ret) (X : Stand p l e R s m args below meth c T locs cells slots) (hd : decode bytes pc = .ok (.pop, 1)) (hc : v.category = 1) (hp : pc + 1 = pc') (k : OwF p e below D T (mkF m pc' Ls (r))) : OwF p e below D T (mkF m pc Ls (v :: r)) := by
  subst hp; exact OwF.st (fun _ q => XT.pop X.here C.1 rfl (hb C.2.1 hd) rfl hc q) k
theorem ow_dupX1 {v w : Value} (C : OwC p Z s m meth c own nm bytes maxL ret) (X : Stand p l e R s m args below meth c T locs cells slots) (hd : decode bytes pc = .ok (.dup_x1, 1)) (hc : v.category = 1) (hc' : w.category = 1) (hp : pc + 1 = pc') (k : OwF p e below D T (mkF m pc' Ls (v :: w :: v :: r))) : OwF p e below D T (mkF m pc Ls (v :: w :: r)) := by
  subst hp; exact OwF.st (fun _ q => XT.dupX1 X.here C.1 rfl (hb C.2.1 hd) rfl hc hc' q) k
theorem ow_dup2 {v w : Value} (C : OwC p Z s m meth c own nm bytes maxL ret) (X : Stand p l e R s m args below meth c T locs cells slots) (hd : decode bytes pc = .ok (.dup2, 1)) (hc : v.category = 1) (hc' : w.category = 1) (hp : pc + 1 = pc') (k : OwF p e below D T (mkF m pc' Ls (v :: w :: v :: w :: r))) : OwF p e below D T (mkF m pc Ls (v :: w :: r)) := by
  subst hp; exact OwF.st (fun _ q => XT.dup2 X.here C.1 rfl (hb C.2.1 hd) rfl hc hc' q) k
theorem ow_dup2L {x : Int64} (C : OwC p Z s m meth c own nm bytes maxL ret) (X : Stand p l e R s m args below meth c T locs cells slots) (hd : decode bytes pc = .ok (.dup2, 1))  (hp : pc + 1 = pc') (k : OwF p e below D T (mkF m pc' Ls (.long x :: .long x :: r))) : OwF p e below D T (mkF m pc Ls (.long x :: r)) := by
  subst hp; exact OwF.st (fun _ q => XT.dup2L X.here C.1 rfl (hb C.2.1 hd) rfl q) k
theorem ow_aconstNull  (C : OwC p Z s m meth c own nm bytes maxL ret) (X : Stand p l e R s m args below meth c T locs cells slots) (hd : decode bytes pc = .ok (.aconst_null, 1))  (hp : pc + 1 = pc') (k : OwF p e below D T (mkF m pc' Ls (.null :: r))) : OwF p e below D T (mkF m pc Ls (r)) := by
  subst hp; exact OwF.st (fun _ q => XS.aconstNull X.here C.1 rfl (hb C.2.1 hd)  q) k
theorem ow_iloadN {j : Fin 4} {v : Int32} (C : OwC p Z s m meth c own nm bytes maxL ret) (X : Stand p l e R s m args below meth c T locs cells slots) (hd : decode bytes pc = .ok (.iload_n j, 1)) (hl : Ls[j.val]? = some (.val (.int v))) (hp : pc + 1 = pc') (k : OwF p e below D T (mkF m pc' Ls (.int v :: r))) : OwF p e below D T (mkF m pc Ls (r)) := by
  subst hp; exact OwF.st (fun _ q => XS.iloadN X.here C.1 rfl (hb C.2.1 hd) hl q) k
theorem ow_iload {j : Nat} {v : Int32} (C : OwC p Z s m meth c own nm bytes maxL ret) (X : Stand p l e R s m args below meth c T locs cells slots) (hd : decode bytes pc = .ok (.iload j, 2)) (hl : Ls[j]? = some (.val (.int v))) (hp : pc + 2 = pc') (k : OwF p e below D T (mkF m pc' Ls (.int v :: r))) : OwF p e below D T (mkF m pc Ls (r)) := by
  subst hp; exact OwF.st (fun _ q => XS.iload X.here C.1 rfl (hb C.2.1 hd) hl q) k
theorem ow_lloadN {j : Fin 4} {v : Int64} (C : OwC p Z s m meth c own nm bytes maxL ret) (X : Stand p l e R s m args below meth c T locs cells slots) (hd : decode bytes pc = .ok (.lload_n j, 1)) (hl : Ls[j.val]? = some (.val (.long v))) (hp : pc + 1 = pc') (k : OwF p e below D T (mkF m pc' Ls (.long v :: r))) : OwF p e below D T (mkF m pc Ls (r)) := by
  subst hp; exact OwF.st (fun _ q => XT.lloadN X.here C.1 rfl (hb C.2.1 hd) hl q) k
theorem ow_lload {j : Nat} {v : Int64} (C : OwC p Z s m meth c own nm bytes maxL ret) (X : Stand p l e R s m args below meth c T locs cells slots) (hd : decode bytes pc = .ok (.lload j, 2)) (hl : Ls[j]? = some (.val (.long v))) (hp : pc + 2 = pc') (k : OwF p e below D T (mkF m pc' Ls (.long v :: r))) : OwF p e below D T (mkF m pc Ls (r)) := by
  subst hp; exact OwF.st (fun _ q => XT.lload X.here C.1 rfl (hb C.2.1 hd) hl q) k
theorem ow_aloadN {j : Fin 4} {v : Value} (C : OwC p Z s m meth c own nm bytes maxL ret) (X : Stand p l e R s m args below meth c T locs cells slots) (hd : decode bytes pc = .ok (.aload_n j, 1)) (hl : Ls[j.val]? = some (.val v)) (hv : v.isRef = true) (hp : pc + 1 = pc') (k : OwF p e below D T (mkF m pc' Ls (v :: r))) : OwF p e below D T (mkF m pc Ls (r)) := by
  subst hp; exact OwF.st (fun _ q => XS.aloadN X.here C.1 rfl (hb C.2.1 hd) hl hv q) k
theorem ow_aload {j : Nat} {v : Value} (C : OwC p Z s m meth c own nm bytes maxL ret) (X : Stand p l e R s m args below meth c T locs cells slots) (hd : decode bytes pc = .ok (.aload j, 2)) (hl : Ls[j]? = some (.val v)) (hv : v.isRef = true) (hp : pc + 2 = pc') (k : OwF p e below D T (mkF m pc' Ls (v :: r))) : OwF p e below D T (mkF m pc Ls (r)) := by
  subst hp; exact OwF.st (fun _ q => XS.aload X.here C.1 rfl (hb C.2.1 hd) hl hv q) k
theorem ow_istoreN {j : Fin 4} {v : Int32} (C : OwC p Z s m meth c own nm bytes maxL ret) (X : Stand p l e R s m args below meth c T locs cells slots) (hd : decode bytes pc = .ok (.istore_n j, 1)) (hl : storeLocals Ls j.val (.int v) = some Ls') (hp : pc + 1 = pc') (k : OwF p e below D T (mkF m pc' Ls' (r))) : OwF p e below D T (mkF m pc Ls (.int v :: r)) := by
  subst hp; exact OwF.st (fun _ q => XS.istoreN X.here C.1 rfl (hb C.2.1 hd) rfl hl q) k
theorem ow_istore {j : Nat} {v : Int32} (C : OwC p Z s m meth c own nm bytes maxL ret) (X : Stand p l e R s m args below meth c T locs cells slots) (hd : decode bytes pc = .ok (.istore j, 2)) (hl : storeLocals Ls j (.int v) = some Ls') (hp : pc + 2 = pc') (k : OwF p e below D T (mkF m pc' Ls' (r))) : OwF p e below D T (mkF m pc Ls (.int v :: r)) := by
  subst hp; exact OwF.st (fun _ q => XS.istore X.here C.1 rfl (hb C.2.1 hd) rfl hl q) k
theorem ow_lstoreN {j : Fin 4} {v : Int64} (C : OwC p Z s m meth c own nm bytes maxL ret) (X : Stand p l e R s m args below meth c T locs cells slots) (hd : decode bytes pc = .ok (.lstore_n j, 1)) (hl : storeLocals Ls j.val (.long v) = some Ls') (hp : pc + 1 = pc') (k : OwF p e below D T (mkF m pc' Ls' (r))) : OwF p e below D T (mkF m pc Ls (.long v :: r)) := by
  subst hp; exact OwF.st (fun _ q => XT.lstoreN X.here C.1 rfl (hb C.2.1 hd) rfl hl q) k
theorem ow_lstore {j : Nat} {v : Int64} (C : OwC p Z s m meth c own nm bytes maxL ret) (X : Stand p l e R s m args below meth c T locs cells slots) (hd : decode bytes pc = .ok (.lstore j, 2)) (hl : storeLocals Ls j (.long v) = some Ls') (hp : pc + 2 = pc') (k : OwF p e below D T (mkF m pc' Ls' (r))) : OwF p e below D T (mkF m pc Ls (.long v :: r)) := by
  subst hp; exact OwF.st (fun _ q => XT.lstore X.here C.1 rfl (hb C.2.1 hd) rfl hl q) k
theorem ow_astoreN {j : Fin 4} {v : Value} (C : OwC p Z s m meth c own nm bytes maxL ret) (X : Stand p l e R s m args below meth c T locs cells slots) (hd : decode bytes pc = .ok (.astore_n j, 1)) (hv : v.isRef = true) (hl : storeLocals Ls j.val v = some Ls') (hp : pc + 1 = pc') (k : OwF p e below D T (mkF m pc' Ls' (r))) : OwF p e below D T (mkF m pc Ls (v :: r)) := by
  subst hp; exact OwF.st (fun _ q => XS.astoreN X.here C.1 rfl (hb C.2.1 hd) rfl hv hl q) k
theorem ow_astore {j : Nat} {v : Value} (C : OwC p Z s m meth c own nm bytes maxL ret) (X : Stand p l e R s m args below meth c T locs cells slots) (hd : decode bytes pc = .ok (.astore j, 2)) (hv : v.isRef = true) (hl : storeLocals Ls j v = some Ls') (hp : pc + 2 = pc') (k : OwF p e below D T (mkF m pc' Ls' (r))) : OwF p e below D T (mkF m pc Ls (v :: r)) := by
  subst hp; exact OwF.st (fun _ q => XS.astore X.here C.1 rfl (hb C.2.1 hd) rfl hv hl q) k
theorem ow_iconst {i : Int} (v : Int32) (C : OwC p Z s m meth c own nm bytes maxL ret) (X : Stand p l e R s m args below meth c T locs cells slots) (hd : decode bytes pc = .ok (.iconst i, 1)) (hv : Int32.ofInt i = v) (hp : pc + 1 = pc') (k : OwF p e below D T (mkF m pc' Ls (.int v :: r))) : OwF p e below D T (mkF m pc Ls r) := by
  subst hp; subst hv; exact OwF.st (fun _ q => XS.iconst X.here C.1 rfl (hb C.2.1 hd) q) k
theorem ow_bipush {i : Int} (v : Int32) (C : OwC p Z s m meth c own nm bytes maxL ret) (X : Stand p l e R s m args below meth c T locs cells slots) (hd : decode bytes pc = .ok (.bipush i, 2)) (hv : (Int8.ofInt i).toInt32 = v) (hp : pc + 2 = pc') (k : OwF p e below D T (mkF m pc' Ls (.int v :: r))) : OwF p e below D T (mkF m pc Ls r) := by
  subst hp; subst hv; exact OwF.st (fun _ q => XS.bipush X.here C.1 rfl (hb C.2.1 hd) q) k
theorem ow_sipush {i : Int} (v : Int32) (C : OwC p Z s m meth c own nm bytes maxL ret) (X : Stand p l e R s m args below meth c T locs cells slots) (hd : decode bytes pc = .ok (.sipush i, 3)) (hv : (Int16.ofInt i).toInt32 = v) (hp : pc + 3 = pc') (k : OwF p e below D T (mkF m pc' Ls (.int v :: r))) : OwF p e below D T (mkF m pc Ls r) := by
  subst hp; subst hv; exact OwF.st (fun _ q => XS.sipush X.here C.1 rfl (hb C.2.1 hd) q) k
theorem ow_lconst {i : Fin 2} (v : Int64) (C : OwC p Z s m meth c own nm bytes maxL ret) (X : Stand p l e R s m args below meth c T locs cells slots) (hd : decode bytes pc = .ok (.lconst i, 1)) (hv : Int64.ofNat i = v) (hp : pc + 1 = pc') (k : OwF p e below D T (mkF m pc' Ls (.long v :: r))) : OwF p e below D T (mkF m pc Ls r) := by
  subst hp; subst hv; exact OwF.st (fun _ q => XT.lconst X.here C.1 rfl (hb C.2.1 hd) q) k
theorem ow_iinc {i : Int} {j : Nat} {x : Int32} (v : Int32) (C : OwC p Z s m meth c own nm bytes maxL ret) (X : Stand p l e R s m args below meth c T locs cells slots) (hd : decode bytes pc = .ok (.iinc j i, 3)) (hv : Int32.ofInt i = v) (hl : Ls[j]? = some (.val (.int x))) (hl' : storeLocals Ls j (.int (x + v)) = some Ls') (hp : pc + 3 = pc') (k : OwF p e below D T (mkF m pc' Ls' r)) : OwF p e below D T (mkF m pc Ls r) := by
  subst hp; subst hv; exact OwF.st (fun _ q => XS.iinc X.here C.1 rfl (hb C.2.1 hd) hl hl' q) k
theorem ow_ldc {i : Nat} {v : Int32} (C : OwC p Z s m meth c own nm bytes maxL ret) (X : Stand p l e R s m args below meth c T locs cells slots) (w : (Jvm.Cond.constant own i v).before a0 Z = true) (hd : decode bytes pc = .ok (.ldc i, 2)) (hp : pc + 2 = pc') (k : OwF p e below D T (mkF m pc' Ls (.int v :: r))) : OwF p e below D T (mkF m pc Ls r) := by
  subst hp; exact OwF.st (fun _ q => X.ldcI C.1 C.2.2.2.1 (mvT C.2.2.2.2.2.2.2 w) rfl (hb C.2.1 hd) q) k
theorem ow_ldcW {i : Nat} {v : Int32} (C : OwC p Z s m meth c own nm bytes maxL ret) (X : Stand p l e R s m args below meth c T locs cells slots) (w : (Jvm.Cond.constant own i v).before a0 Z = true) (hd : decode bytes pc = .ok (.ldc_w i, 3)) (hp : pc + 3 = pc') (k : OwF p e below D T (mkF m pc' Ls (.int v :: r))) : OwF p e below D T (mkF m pc Ls r) := by
  subst hp; exact OwF.st (fun _ q => X.ldcWI C.1 C.2.2.2.1 (mvT C.2.2.2.2.2.2.2 w) rfl (hb C.2.1 hd) q) k
theorem ow_ldc2 {i : Nat} {v : Int64} (C : OwC p Z s m meth c own nm bytes maxL ret) (X : Stand p l e R s m args below meth c T locs cells slots) (w : (Jvm.Cond.constantLong own i v).before a0 Z = true) (hd : decode bytes pc = .ok (.ldc2_w i, 3)) (hp : pc + 3 = pc') (k : OwF p e below D T (mkF m pc' Ls (.long v :: r))) : OwF p e below D T (mkF m pc Ls r) := by
  subst hp; exact OwF.st (fun _ q => X.ldc2J C.1 C.2.2.2.1 (mvT C.2.2.2.2.2.2.2 w) rfl (hb C.2.1 hd) q) k
theorem ow_goto {o : Int} (C : OwC p Z s m meth c own nm bytes maxL ret) (X : Stand p l e R s m args below meth c T locs cells slots) (hd : decode bytes pc = .ok (.goto o, 3)) (ho : 0 ≤ (pc : Int) + o) (ht : ((pc : Int) + o).toNat = pcT) (k : OwF p e below D T (mkF m pcT Ls r)) : OwF p e below D T (mkF m pc Ls r) :=
  OwF.st (fun _ q => XS.goto X.here C.1 rfl rfl (hb C.2.1 hd) ho ht q) k
theorem ow_if_eq {x : Int32} {o : Int} (C : OwC p Z s m meth c own nm bytes maxL ret) (X : Stand p l e R s m args below meth c T locs cells slots) (hd : decode bytes pc = .ok (.ifCond .eq o, 3)) (ho : 0 ≤ (pc : Int) + o) (ht : ((pc : Int) + o).toNat = pcT) (hp : pc + 3 = pc') (k1 : x = 0 → OwF p e below D T (mkF m pcT Ls r)) (k2 : ¬ x = 0 → OwF p e below D T (mkF m pc' Ls r)) : OwF p e below D T (mkF m pc Ls (.int x :: r)) := by
  subst hp
  by_cases hq : x = 0
  · exact OwF.st (fun _ q => XS.ifYes X.here C.1 rfl rfl (hb C.2.1 hd) rfl (XT.i0_eq_t hq) ho ht q) (k1 hq)
  · exact OwF.st (fun _ q => XS.ifNo X.here C.1 rfl (hb C.2.1 hd) rfl (XT.i0_eq_f hq) q) (k2 hq)
theorem ow_icmp_eq {x y : Int32} {o : Int} (C : OwC p Z s m meth c own nm bytes maxL ret) (X : Stand p l e R s m args below meth c T locs cells slots) (hd : decode bytes pc = .ok (.if_icmp .eq o, 3)) (ho : 0 ≤ (pc : Int) + o) (ht : ((pc : Int) + o).toNat = pcT) (hp : pc + 3 = pc') (k1 : x = y → OwF p e below D T (mkF m pcT Ls r)) (k2 : ¬ x = y → OwF p e below D T (mkF m pc' Ls r)) : OwF p e below D T (mkF m pc Ls (.int y :: .int x :: r)) := by
  subst hp
  by_cases hq : x = y
  · exact OwF.st (fun _ q => XS.icmpYes X.here C.1 rfl rfl (hb C.2.1 hd) rfl (XT.ii_eq_t hq) ho ht q) (k1 hq)
  · exact OwF.st (fun _ q => XS.icmpNo X.here C.1 rfl (hb C.2.1 hd) rfl (XT.ii_eq_f hq) q) (k2 hq)
theorem ow_lif_eq {x y : Int64} {o : Int} (C : OwC p Z s m meth c own nm bytes maxL ret) (X : Stand p l e R s m args below meth c T locs cells slots) (hd : decode bytes pc = .ok (.ifCond .eq o, 3)) (ho : 0 ≤ (pc : Int) + o) (ht : ((pc : Int) + o).toNat = pcT) (hp : pc + 3 = pc') (k1 : x = y → OwF p e below D T (mkF m pcT Ls r)) (k2 : ¬ x = y → OwF p e below D T (mkF m pc' Ls r)) : OwF p e below D T (mkF m pc Ls (.int (XT.cmpL x y) :: r)) := by
  subst hp
  by_cases hq : x = y
  · exact OwF.st (fun _ q => XS.ifYes X.here C.1 rfl rfl (hb C.2.1 hd) rfl (XT.ll_eq_t hq) ho ht q) (k1 hq)
  · exact OwF.st (fun _ q => XS.ifNo X.here C.1 rfl (hb C.2.1 hd) rfl (XT.ll_eq_f hq) q) (k2 hq)
theorem ow_if_ne {x : Int32} {o : Int} (C : OwC p Z s m meth c own nm bytes maxL ret) (X : Stand p l e R s m args below meth c T locs cells slots) (hd : decode bytes pc = .ok (.ifCond .ne o, 3)) (ho : 0 ≤ (pc : Int) + o) (ht : ((pc : Int) + o).toNat = pcT) (hp : pc + 3 = pc') (k1 : ¬ x = 0 → OwF p e below D T (mkF m pcT Ls r)) (k2 : x = 0 → OwF p e below D T (mkF m pc' Ls r)) : OwF p e below D T (mkF m pc Ls (.int x :: r)) := by
  subst hp
  by_cases hq : x = 0
  · exact OwF.st (fun _ q => XS.ifNo X.here C.1 rfl (hb C.2.1 hd) rfl (XT.i0_ne_f hq) q) (k2 hq)
  · exact OwF.st (fun _ q => XS.ifYes X.here C.1 rfl rfl (hb C.2.1 hd) rfl (XT.i0_ne_t hq) ho ht q) (k1 hq)
theorem ow_icmp_ne {x y : Int32} {o : Int} (C : OwC p Z s m meth c own nm bytes maxL ret) (X : Stand p l e R s m args below meth c T locs cells slots) (hd : decode bytes pc = .ok (.if_icmp .ne o, 3)) (ho : 0 ≤ (pc : Int) + o) (ht : ((pc : Int) + o).toNat = pcT) (hp : pc + 3 = pc') (k1 : ¬ x = y → OwF p e below D T (mkF m pcT Ls r)) (k2 : x = y → OwF p e below D T (mkF m pc' Ls r)) : OwF p e below D T (mkF m pc Ls (.int y :: .int x :: r)) := by
  subst hp
  by_cases hq : x = y
  · exact OwF.st (fun _ q => XS.icmpNo X.here C.1 rfl (hb C.2.1 hd) rfl (XT.ii_ne_f hq) q) (k2 hq)
  · exact OwF.st (fun _ q => XS.icmpYes X.here C.1 rfl rfl (hb C.2.1 hd) rfl (XT.ii_ne_t hq) ho ht q) (k1 hq)
theorem ow_lif_ne {x y : Int64} {o : Int} (C : OwC p Z s m meth c own nm bytes maxL ret) (X : Stand p l e R s m args below meth c T locs cells slots) (hd : decode bytes pc = .ok (.ifCond .ne o, 3)) (ho : 0 ≤ (pc : Int) + o) (ht : ((pc : Int) + o).toNat = pcT) (hp : pc + 3 = pc') (k1 : ¬ x = y → OwF p e below D T (mkF m pcT Ls r)) (k2 : x = y → OwF p e below D T (mkF m pc' Ls r)) : OwF p e below D T (mkF m pc Ls (.int (XT.cmpL x y) :: r)) := by
  subst hp
  by_cases hq : x = y
  · exact OwF.st (fun _ q => XS.ifNo X.here C.1 rfl (hb C.2.1 hd) rfl (XT.ll_ne_f hq) q) (k2 hq)
  · exact OwF.st (fun _ q => XS.ifYes X.here C.1 rfl rfl (hb C.2.1 hd) rfl (XT.ll_ne_t hq) ho ht q) (k1 hq)
theorem ow_if_lt {x : Int32} {o : Int} (C : OwC p Z s m meth c own nm bytes maxL ret) (X : Stand p l e R s m args below meth c T locs cells slots) (hd : decode bytes pc = .ok (.ifCond .lt o, 3)) (ho : 0 ≤ (pc : Int) + o) (ht : ((pc : Int) + o).toNat = pcT) (hp : pc + 3 = pc') (k1 : x < 0 → OwF p e below D T (mkF m pcT Ls r)) (k2 : ¬ x < 0 → OwF p e below D T (mkF m pc' Ls r)) : OwF p e below D T (mkF m pc Ls (.int x :: r)) := by
  subst hp
  by_cases hq : x < 0
  · exact OwF.st (fun _ q => XS.ifYes X.here C.1 rfl rfl (hb C.2.1 hd) rfl (XT.i0_lt_t hq) ho ht q) (k1 hq)
  · exact OwF.st (fun _ q => XS.ifNo X.here C.1 rfl (hb C.2.1 hd) rfl (XT.i0_lt_f hq) q) (k2 hq)
theorem ow_icmp_lt {x y : Int32} {o : Int} (C : OwC p Z s m meth c own nm bytes maxL ret) (X : Stand p l e R s m args below meth c T locs cells slots) (hd : decode bytes pc = .ok (.if_icmp .lt o, 3)) (ho : 0 ≤ (pc : Int) + o) (ht : ((pc : Int) + o).toNat = pcT) (hp : pc + 3 = pc') (k1 : x < y → OwF p e below D T (mkF m pcT Ls r)) (k2 : ¬ x < y → OwF p e below D T (mkF m pc' Ls r)) : OwF p e below D T (mkF m pc Ls (.int y :: .int x :: r)) := by
  subst hp
  by_cases hq : x < y
  · exact OwF.st (fun _ q => XS.icmpYes X.here C.1 rfl rfl (hb C.2.1 hd) rfl (XT.ii_lt_t hq) ho ht q) (k1 hq)
  · exact OwF.st (fun _ q => XS.icmpNo X.here C.1 rfl (hb C.2.1 hd) rfl (XT.ii_lt_f hq) q) (k2 hq)
theorem ow_lif_lt {x y : Int64} {o : Int} (C : OwC p Z s m meth c own nm bytes maxL ret) (X : Stand p l e R s m args below meth c T locs cells slots) (hd : decode bytes pc = .ok (.ifCond .lt o, 3)) (ho : 0 ≤ (pc : Int) + o) (ht : ((pc : Int) + o).toNat = pcT) (hp : pc + 3 = pc') (k1 : x < y → OwF p e below D T (mkF m pcT Ls r)) (k2 : ¬ x < y → OwF p e below D T (mkF m pc' Ls r)) : OwF p e below D T (mkF m pc Ls (.int (XT.cmpL x y) :: r)) := by
  subst hp
  by_cases hq : x < y
  · exact OwF.st (fun _ q => XS.ifYes X.here C.1 rfl rfl (hb C.2.1 hd) rfl (XT.ll_lt_t hq) ho ht q) (k1 hq)
  · exact OwF.st (fun _ q => XS.ifNo X.here C.1 rfl (hb C.2.1 hd) rfl (XT.ll_lt_f hq) q) (k2 hq)
theorem ow_if_ge {x : Int32} {o : Int} (C : OwC p Z s m meth c own nm bytes maxL ret) (X : Stand p l e R s m args below meth c T locs cells slots) (hd : decode bytes pc = .ok (.ifCond .ge o, 3)) (ho : 0 ≤ (pc : Int) + o) (ht : ((pc : Int) + o).toNat = pcT) (hp : pc + 3 = pc') (k1 : ¬ x < 0 → OwF p e below D T (mkF m pcT Ls r)) (k2 : x < 0 → OwF p e below D T (mkF m pc' Ls r)) : OwF p e below D T (mkF m pc Ls (.int x :: r)) := by
  subst hp
  by_cases hq : x < 0
  · exact OwF.st (fun _ q => XS.ifNo X.here C.1 rfl (hb C.2.1 hd) rfl (XT.i0_ge_f hq) q) (k2 hq)
  · exact OwF.st (fun _ q => XS.ifYes X.here C.1 rfl rfl (hb C.2.1 hd) rfl (XT.i0_ge_t hq) ho ht q) (k1 hq)
theorem ow_icmp_ge {x y : Int32} {o : Int} (C : OwC p Z s m meth c own nm bytes maxL ret) (X : Stand p l e R s m args below meth c T locs cells slots) (hd : decode bytes pc = .ok (.if_icmp .ge o, 3)) (ho : 0 ≤ (pc : Int) + o) (ht : ((pc : Int) + o).toNat = pcT) (hp : pc + 3 = pc') (k1 : ¬ x < y → OwF p e below D T (mkF m pcT Ls r)) (k2 : x < y → OwF p e below D T (mkF m pc' Ls r)) : OwF p e below D T (mkF m pc Ls (.int y :: .int x :: r)) := by
  subst hp
  by_cases hq : x < y
  · exact OwF.st (fun _ q => XS.icmpNo X.here C.1 rfl (hb C.2.1 hd) rfl (XT.ii_ge_f hq) q) (k2 hq)
  · exact OwF.st (fun _ q => XS.icmpYes X.here C.1 rfl rfl (hb C.2.1 hd) rfl (XT.ii_ge_t hq) ho ht q) (k1 hq)
theorem ow_lif_ge {x y : Int64} {o : Int} (C : OwC p Z s m meth c own nm bytes maxL ret) (X : Stand p l e R s m args below meth c T locs cells slots) (hd : decode bytes pc = .ok (.ifCond .ge o, 3)) (ho : 0 ≤ (pc : Int) + o) (ht : ((pc : Int) + o).toNat = pcT) (hp : pc + 3 = pc') (k1 : ¬ x < y → OwF p e below D T (mkF m pcT Ls r)) (k2 : x < y → OwF p e below D T (mkF m pc' Ls r)) : OwF p e below D T (mkF m pc Ls (.int (XT.cmpL x y) :: r)) := by
  subst hp
  by_cases hq : x < y
  · exact OwF.st (fun _ q => XS.ifNo X.here C.1 rfl (hb C.2.1 hd) rfl (XT.ll_ge_f hq) q) (k2 hq)
  · exact OwF.st (fun _ q => XS.ifYes X.here C.1 rfl rfl (hb C.2.1 hd) rfl (XT.ll_ge_t hq) ho ht q) (k1 hq)
theorem ow_if_gt {x : Int32} {o : Int} (C : OwC p Z s m meth c own nm bytes maxL ret) (X : Stand p l e R s m args below meth c T locs cells slots) (hd : decode bytes pc = .ok (.ifCond .gt o, 3)) (ho : 0 ≤ (pc : Int) + o) (ht : ((pc : Int) + o).toNat = pcT) (hp : pc + 3 = pc') (k1 : 0 < x → OwF p e below D T (mkF m pcT Ls r)) (k2 : ¬ 0 < x → OwF p e below D T (mkF m pc' Ls r)) : OwF p e below D T (mkF m pc Ls (.int x :: r)) := by
  subst hp
  by_cases hq : 0 < x
  · exact OwF.st (fun _ q => XS.ifYes X.here C.1 rfl rfl (hb C.2.1 hd) rfl (XT.i0_gt_t hq) ho ht q) (k1 hq)
  · exact OwF.st (fun _ q => XS.ifNo X.here C.1 rfl (hb C.2.1 hd) rfl (XT.i0_gt_f hq) q) (k2 hq)
theorem ow_icmp_gt {x y : Int32} {o : Int} (C : OwC p Z s m meth c own nm bytes maxL ret) (X : Stand p l e R s m args below meth c T locs cells slots) (hd : decode bytes pc = .ok (.if_icmp .gt o, 3)) (ho : 0 ≤ (pc : Int) + o) (ht : ((pc : Int) + o).toNat = pcT) (hp : pc + 3 = pc') (k1 : y < x → OwF p e below D T (mkF m pcT Ls r)) (k2 : ¬ y < x → OwF p e below D T (mkF m pc' Ls r)) : OwF p e below D T (mkF m pc Ls (.int y :: .int x :: r)) := by
  subst hp
  by_cases hq : y < x
  · exact OwF.st (fun _ q => XS.icmpYes X.here C.1 rfl rfl (hb C.2.1 hd) rfl (XT.ii_gt_t hq) ho ht q) (k1 hq)
  · exact OwF.st (fun _ q => XS.icmpNo X.here C.1 rfl (hb C.2.1 hd) rfl (XT.ii_gt_f hq) q) (k2 hq)
theorem ow_lif_gt {x y : Int64} {o : Int} (C : OwC p Z s m meth c own nm bytes maxL ret) (X : Stand p l e R s m args below meth c T locs cells slots) (hd : decode bytes pc = .ok (.ifCond .gt o, 3)) (ho : 0 ≤ (pc : Int) + o) (ht : ((pc : Int) + o).toNat = pcT) (hp : pc + 3 = pc') (k1 : y < x → OwF p e below D T (mkF m pcT Ls r)) (k2 : ¬ y < x → OwF p e below D T (mkF m pc' Ls r)) : OwF p e below D T (mkF m pc Ls (.int (XT.cmpL x y) :: r)) := by
  subst hp
  by_cases hq : y < x
  · exact OwF.st (fun _ q => XS.ifYes X.here C.1 rfl rfl (hb C.2.1 hd) rfl (XT.ll_gt_t hq) ho ht q) (k1 hq)
  · exact OwF.st (fun _ q => XS.ifNo X.here C.1 rfl (hb C.2.1 hd) rfl (XT.ll_gt_f hq) q) (k2 hq)
theorem ow_if_le {x : Int32} {o : Int} (C : OwC p Z s m meth c own nm bytes maxL ret) (X : Stand p l e R s m args below meth c T locs cells slots) (hd : decode bytes pc = .ok (.ifCond .le o, 3)) (ho : 0 ≤ (pc : Int) + o) (ht : ((pc : Int) + o).toNat = pcT) (hp : pc + 3 = pc') (k1 : ¬ 0 < x → OwF p e below D T (mkF m pcT Ls r)) (k2 : 0 < x → OwF p e below D T (mkF m pc' Ls r)) : OwF p e below D T (mkF m pc Ls (.int x :: r)) := by
  subst hp
  by_cases hq : 0 < x
  · exact OwF.st (fun _ q => XS.ifNo X.here C.1 rfl (hb C.2.1 hd) rfl (XT.i0_le_f hq) q) (k2 hq)
  · exact OwF.st (fun _ q => XS.ifYes X.here C.1 rfl rfl (hb C.2.1 hd) rfl (XT.i0_le_t hq) ho ht q) (k1 hq)
theorem ow_icmp_le {x y : Int32} {o : Int} (C : OwC p Z s m meth c own nm bytes maxL ret) (X : Stand p l e R s m args below meth c T locs cells slots) (hd : decode bytes pc = .ok (.if_icmp .le o, 3)) (ho : 0 ≤ (pc : Int) + o) (ht : ((pc : Int) + o).toNat = pcT) (hp : pc + 3 = pc') (k1 : ¬ y < x → OwF p e below D T (mkF m pcT Ls r)) (k2 : y < x → OwF p e below D T (mkF m pc' Ls r)) : OwF p e below D T (mkF m pc Ls (.int y :: .int x :: r)) := by
  subst hp
  by_cases hq : y < x
  · exact OwF.st (fun _ q => XS.icmpNo X.here C.1 rfl (hb C.2.1 hd) rfl (XT.ii_le_f hq) q) (k2 hq)
  · exact OwF.st (fun _ q => XS.icmpYes X.here C.1 rfl rfl (hb C.2.1 hd) rfl (XT.ii_le_t hq) ho ht q) (k1 hq)
theorem ow_lif_le {x y : Int64} {o : Int} (C : OwC p Z s m meth c own nm bytes maxL ret) (X : Stand p l e R s m args below meth c T locs cells slots) (hd : decode bytes pc = .ok (.ifCond .le o, 3)) (ho : 0 ≤ (pc : Int) + o) (ht : ((pc : Int) + o).toNat = pcT) (hp : pc + 3 = pc') (k1 : ¬ y < x → OwF p e below D T (mkF m pcT Ls r)) (k2 : y < x → OwF p e below D T (mkF m pc' Ls r)) : OwF p e below D T (mkF m pc Ls (.int (XT.cmpL x y) :: r)) := by
  subst hp
  by_cases hq : y < x
  · exact OwF.st (fun _ q => XS.ifNo X.here C.1 rfl (hb C.2.1 hd) rfl (XT.ll_le_f hq) q) (k2 hq)
  · exact OwF.st (fun _ q => XS.ifYes X.here C.1 rfl rfl (hb C.2.1 hd) rfl (XT.ll_le_t hq) ho ht q) (k1 hq)
end OwnSteps
section OwnObj
variable {p : Program} {l : Launch} {e : Env} {R : Room} {s : State} {m : MethodId} {args : Array Value} {below : List Frame} {meth : Method} {c : Code} {T : State} {locs : List Loc} {cells slots : Nat} {Z : State} {a0 : Array Value} {h : Heap}
variable {own nm : String} {bytes : ByteArray} {maxL : Nat} {ret : Option FieldType} {D : State → Outcome → Prop} {pc pc' pcT : Nat} {Ls Ls' : Array Slot} {r : List Value}
/-- what lies on a stack, in words -/
abbrev owCat (r : List Value) : Nat := (r.map fun v => v.category).sum
theorem ow_getF {O n d : String} {index : Nat} {a : Addr} {v : Value} (C : OwC p Z s m meth c own nm bytes maxL ret) (X : Stand p l e R s m args below meth c T locs cells slots) (eT : T.heap = h) (w : (Jvm.Cond.fieldLink own index O n d).before a0 Z = true) (F : Fld Z h a O n d v)
    (hd : decode bytes pc = .ok (.getfield index, 3)) (hp : pc + 3 = pc') (k : ∀ T', Stand p l e R s m args below meth c T' locs cells slots → T'.heap = h → OwF p e below D T' (mkF m pc' Ls (v :: r))) : OwF p e below D T (mkF m pc Ls (.ref a :: r)) := by
  subst hp
  obtain ⟨T', X', e', st⟩ := getF X C.1 C.2.2.2.2.2.2.2 C.2.2.2.1 (host := "") (Or.inl w) Via.refl eT F (g := mkF m pc Ls (.ref a :: r)) rfl rfl (hb C.2.1 hd)
  exact OwF.st st (k T' X' e')
theorem ow_putF {O n d K : String} {index kk : Nat} {ty : FieldType} {a : Addr} {v old : Value} (C : OwC p Z s m meth c own nm bytes maxL ret) (X : Stand p l e R s m args below meth c T locs cells slots) (eT : T.heap = h) (w : (Jvm.Cond.fieldLink own index O n d).before a0 Z = true) (F : Fld Z h a O n d old) (E : Exa Z h a K)
    (L : (Jvm.Cond.lays K O n d).before a0 Z = true ∨ ((Jvm.Cond.laysFinal K O n d).before a0 Z = true ∧ own = O ∧ nm = "<init>")) (wi : (Jvm.Cond.instantiable K kk).before a0 Z = true) (hty : parseFieldDescriptor d = some ty) (hn : narrow ty v = v) (hf : fits ty v = true)
    (hd : decode bytes pc = .ok (.putfield index, 3)) (hp : pc + 3 = pc')
    (k : ∀ T' h', Stand p l e R s m args below meth c T' (locs ++ [⟨a, Jvm.RoadKit.slotOf Z O n d⟩]) cells slots → T'.heap = h' → Wr h h' a (Jvm.RoadKit.slotOf Z O n d) v → OwF p e below D T' (mkF m pc' Ls r)) : OwF p e below D T (mkF m pc Ls (v :: .ref a :: r)) := by
  subst hp
  obtain ⟨T', h', X', e', W', st⟩ := putF X C.1 C.2.2.2.2.2.2.2 C.2.2.2.1 (host := "") (Or.inl w) Via.refl eT F E (L.imp id fun q => ⟨q.1, q.2.1, C.2.2.2.2.1.trans q.2.2⟩) wi hty hn hf (g := mkF m pc Ls (v :: .ref a :: r)) rfl rfl (hb C.2.1 hd)
  exact OwF.st st (k T' h' X' e' W')
theorem ow_getS {O n d : String} {index : Nat} {v : Value} (C : OwC p Z s m meth c own nm bytes maxL ret) (X : Stand p l e R s m args below meth c T locs cells slots) (eT : T.heap = h) (w : (Jvm.Cond.fieldLink own index O n d).before a0 Z = true) (F : Sta Z h O n d v)
    (hd : decode bytes pc = .ok (.getstatic index, 3)) (hp : pc + 3 = pc') (k : ∀ T', Stand p l e R s m args below meth c T' locs cells slots → T'.heap = h → OwF p e below D T' (mkF m pc' Ls (v :: r))) : OwF p e below D T (mkF m pc Ls r) := by
  subst hp
  obtain ⟨T', X', e', st⟩ := getS X C.1 C.2.2.2.2.2.2.2 C.2.2.2.1 (host := "") w Via.refl eT F (g := mkF m pc Ls r) rfl (hb C.2.1 hd)
  exact OwF.st st (k T' X' e')
theorem ow_new {K : String} {index n : Nat} (C : OwC p Z s m meth c own nm bytes maxL ret) (X : Stand p l e R s m args below meth c T locs cells slots) (eT : T.heap = h) (w : (Jvm.Cond.classLink own index K).before a0 Z = true) (wi : (Jvm.Cond.instantiable K n).before a0 Z = true) (wz : (Jvm.Cond.initialized K).before a0 Z = true)
    (hd : decode bytes pc = .ok (.new index, 3)) (hc : cells + 1 ≤ R.cells) (hl : slots + n ≤ R.slots) (hp : pc + 3 = pc')
    (k : ∀ T' h' a, a = h.size → Stand p l e R s m args below meth c T' locs (cells + 1) (slots + n) → T'.heap = h' → Ext h h' → Exa Z h' a K → (∀ {O nm d : String} {ty : FieldType}, Laid Z a0 K O nm d → parseFieldDescriptor d = some ty → Fld Z h' a O nm d (defaultValue ty)) → OwF p e below D T' (mkF m pc' Ls (.ref a :: r))) : OwF p e below D T (mkF m pc Ls r) := by
  subst hp
  obtain ⟨T', h', X', e', E', A', D', -, st⟩ := newO X C.1 C.2.2.2.2.2.2.2 C.2.2.2.1 w wi wz eT (g := mkF m pc Ls r) rfl (hb C.2.1 hd) hc hl
  exact OwF.st st (k T' h' _ rfl X' e' E' A' D')
theorem ow_initO {index : Nat} {a : Addr} (C : OwC p Z s m meth c own nm bytes maxL ret) (X : Stand p l e R s m args below meth c T locs cells slots) (eT : T.heap = h) (w1 : (Jvm.Cond.methodLink own index Lib.objectInit).before a0 Z = true) (w2 : (Jvm.Cond.instanceMethod Lib.objectInit).before a0 Z = true)
    (w3 : (Jvm.Cond.code Lib.objectInit ⟨#[0xb1]⟩ 1 none).before a0 Z = true) (hsz : Ls.size = maxL) (hd : decode bytes pc = .ok (.invokespecial index, 3)) (hf : 1 ≤ R.frames) (hl : owCat r + 12 ≤ R.locals) (hp : pc + 3 = pc')
    (k : ∀ T', Stand p l e R s m args below meth c T' locs cells slots → T'.heap = h → OwF p e below D T' (mkF m pc' Ls r)) : OwF p e below D T (mkF m pc Ls (.ref a :: r)) := by
  subst hp
  obtain ⟨T', X', e', st⟩ := initO X C.1 C.2.2.2.2.2.2.2 C.2.2.2.1 w1 w2 w3 eT (g := mkF m pc Ls (.ref a :: r)) rfl (by rw [C.2.2.1]; exact hsz) rfl (hb C.2.1 hd) hf (W := owCat r) (by show 2 * 0 + owCat r ≤ owCat r; omega) hl
  exact OwF.st st (k T' X' e')
/-- a static method by its contract -/
theorem ow_callS {index : Nat} {y : MethodName} {by' : ByteArray} {mx : Nat} {rt : Option FieldType} {rm : Room} {Q : Option Value → Heap → List Loc → Prop} {stk argsL rest : List Value} {ps : List FieldType} {pr : Option FieldType}
    (C : OwC p Z s m meth c own nm bytes maxL ret) (X : Stand p l e R s m args below meth c T locs cells slots) (eT : T.heap = h)
    (w1 : (Jvm.Cond.methodLink own index y).before a0 Z = true) (w2 : (Jvm.Cond.static y).before a0 Z = true) (w3 : (Jvm.Cond.initialized y.cls).before a0 Z = true) (w4 : (Jvm.Cond.code y by' mx rt).before a0 Z = true) (hy : y.cls ≠ "java/lang/invoke/MethodHandle" ∧ y.cls ≠ "java/lang/invoke/VarHandle")
    (M : OwCon l y by' mx rt rm Z argsL.toArray h Q) (hds : parseMethodDescriptor y.desc = some ⟨ps, pr⟩) (hln : argsL.length = ps.length) (hst : stk = argsL.reverse ++ rest) (hsz : Ls.size = maxL)
    (hd : decode bytes pc = .ok (.invokestatic index, 3)) (hfr : rm.frames + 1 ≤ R.frames) (hlo : owCat rest + (mx + 11) + rm.locals ≤ R.locals) (hcl : cells + rm.cells ≤ R.cells) (hsl : slots + rm.slots ≤ R.slots) (hp : pc + 3 = pc')
    (k : ∀ T' v L, Stand p l e R s m args below meth c T' (locs ++ L) (cells + rm.cells) (slots + rm.slots) → Q v T'.heap L → OwF p e below D T' (mkF m pc' Ls (v.toList ++ rest))) : OwF p e below D T (mkF m pc Ls stk) := by
  subst hp; subst hst
  have hZ := C.2.2.2.2.2.2.2
  obtain ⟨v, _, ⟨T', L', k', n'⟩, -, X', ⟨Lc, hQ, l', y', z'⟩, st⟩ := Jvm.LawKit.callS X C.1 (y := y) C.2.2.2.1 (mvT hZ w1) (mvT hZ w2) (mvT hZ w3) (mvT hZ w4) hy (backOf (W := owCat rest) (M []) hZ w4 w3 hfr hlo) (g := mkF m pc Ls (argsL.reverse ++ rest)) rfl (by rw [C.2.2.1]; exact hsz) (argsL := argsL) (rest := rest) (lenOf hds hln) rfl (by show 2 * 0 + owCat rest ≤ owCat rest; omega) (hb C.2.1 hd) (fun _ _ => ⟨rfl, eT, hcl, hsl⟩)
  dsimp only [Pt.U, Pt.locs, Pt.cells, Pt.slots] at X' l' y' z' st hQ
  subst l' y' z'
  exact OwF.st st (k T' v Lc X' hQ)
/-- a constructor by its contract -/
theorem ow_callN {index : Nat} {y : MethodName} {by' : ByteArray} {mx : Nat} {rm : Room} {Q : Option Value → Heap → List Loc → Prop} {stk argsL rest : List Value} {ps : List FieldType} {pr : Option FieldType} {a : Addr}
    (C : OwC p Z s m meth c own nm bytes maxL ret) (X : Stand p l e R s m args below meth c T locs cells slots) (eT : T.heap = h) (hni : y.name = "<init>")
    (w1 : (Jvm.Cond.methodLink own index y).before a0 Z = true) (w2 : (Jvm.Cond.instanceMethod y).before a0 Z = true) (w3 : (Jvm.Cond.initialized y.cls).before a0 Z = true) (w4 : (Jvm.Cond.code y by' mx none).before a0 Z = true) (hy : y.cls ≠ "java/lang/invoke/MethodHandle" ∧ y.cls ≠ "java/lang/invoke/VarHandle")
    (M : OwCon l y by' mx none rm Z (.ref a :: argsL).toArray h Q) (hds : parseMethodDescriptor y.desc = some ⟨ps, pr⟩) (hln : argsL.length = ps.length) (hst : stk = argsL.reverse ++ .ref a :: rest) (hsz : Ls.size = maxL)
    (hd : decode bytes pc = .ok (.invokespecial index, 3)) (hfr : rm.frames + 1 ≤ R.frames) (hlo : owCat rest + (mx + 11) + rm.locals ≤ R.locals) (hcl : cells + rm.cells ≤ R.cells) (hsl : slots + rm.slots ≤ R.slots) (hp : pc + 3 = pc')
    (k : ∀ T' v L, Stand p l e R s m args below meth c T' (locs ++ L) (cells + rm.cells) (slots + rm.slots) → Q v T'.heap L → OwF p e below D T' (mkF m pc' Ls (v.toList ++ rest))) : OwF p e below D T (mkF m pc Ls stk) := by
  subst hp; subst hst
  have hZ := C.2.2.2.2.2.2.2
  obtain ⟨v, _, ⟨T', L', k', n'⟩, -, X', ⟨Lc, hQ, l', y', z'⟩, st⟩ := X.specialBack C.1 (y := y) hni C.2.2.2.1 (mvT hZ w1) (mvT hZ w2) (mvT hZ w4) hy (backOf (W := owCat rest) (M []) hZ w4 w3 hfr hlo) (g := mkF m pc Ls (argsL.reverse ++ .ref a :: rest)) rfl (by rw [C.2.2.1]; exact hsz) (Steps.refl _) (a := a) (argsL := argsL) (rest := rest) (lenOf hds hln) rfl (by show 2 * 0 + owCat rest ≤ owCat rest; omega) (hb C.2.1 hd) (fun _ _ => ⟨rfl, eT, hcl, hsl⟩)
  dsimp only [Pt.U, Pt.locs, Pt.cells, Pt.slots] at X' l' y' z' st hQ
  subst l' y' z'
  exact OwF.st (fun _ q => st.trans q) (k T' v Lc X' hQ)
/-- an instance method by its contract -/
theorem ow_callV {K : String} {index : Nat} {y : MethodName} {by' : ByteArray} {mx : Nat} {rt : Option FieldType} {rm : Room} {Q : Option Value → Heap → List Loc → Prop} {stk argsL rest : List Value} {ps : List FieldType} {pr : Option FieldType} {a : Addr}
    (C : OwC p Z s m meth c own nm bytes maxL ret) (X : Stand p l e R s m args below meth c T locs cells slots) (eT : T.heap = h)
    (w1 : (Jvm.Cond.methodLink own index y).before a0 Z = true) (w2 : (Jvm.Cond.declares y).before a0 Z = true) (w5 : (Jvm.Cond.selects K y y).before a0 Z = true) (hK : K = y.cls) (w6 : (Jvm.Cond.instanceMethod y).before a0 Z = true) (w3 : (Jvm.Cond.initialized y.cls).before a0 Z = true) (w4 : (Jvm.Cond.code y by' mx rt).before a0 Z = true)
    (hy : y.cls ≠ "java/lang/invoke/MethodHandle" ∧ y.cls ≠ "java/lang/invoke/VarHandle") (E : Exa Z h a K)
    (M : OwCon l y by' mx rt rm Z (.ref a :: argsL).toArray h Q) (hds : parseMethodDescriptor y.desc = some ⟨ps, pr⟩) (hln : argsL.length = ps.length) (hst : stk = argsL.reverse ++ .ref a :: rest) (hsz : Ls.size = maxL)
    (hd : decode bytes pc = .ok (.invokevirtual index, 3)) (hfr : rm.frames + 1 ≤ R.frames) (hlo : owCat rest + (mx + 11) + rm.locals ≤ R.locals) (hcl : cells + rm.cells ≤ R.cells) (hsl : slots + rm.slots ≤ R.slots) (hp : pc + 3 = pc')
    (k : ∀ T' v L, Stand p l e R s m args below meth c T' (locs ++ L) (cells + rm.cells) (slots + rm.slots) → Q v T'.heap L → OwF p e below D T' (mkF m pc' Ls (v.toList ++ rest))) : OwF p e below D T (mkF m pc Ls stk) := by
  subst hp; subst hst; subst hK
  have hZ := C.2.2.2.2.2.2.2
  obtain ⟨cq, kq, q1, q2, q3⟩ := isOf hZ eT E
  obtain ⟨v, _, ⟨T', L', k', n'⟩, -, X', ⟨Lc, hQ, l', y', z'⟩, st⟩ := X.virtualBack C.1 (y := y) (z := y) C.2.2.2.1 (mvT hZ w1) (mvT hZ w2) (notFace_of_selects (args := #[]) (mvT hZ w5)) (mvT hZ w5) (mvT hZ w6) hy (backOf (W := owCat rest) (M []) hZ w4 w3 hfr hlo) q1 q3 (g := mkF m pc Ls (argsL.reverse ++ .ref a :: rest)) rfl (by rw [C.2.2.1]; exact hsz) (Steps.refl _) (argsL := argsL) (rest := rest) (lenOf hds hln) rfl (by show 2 * 0 + owCat rest ≤ owCat rest; omega) (hb C.2.1 hd) (fun _ _ => ⟨rfl, eT, hcl, hsl⟩)
  dsimp only [Pt.U, Pt.locs, Pt.cells, Pt.slots] at X' l' y' z' st hQ
  subst l' y' z'
  exact OwF.st (fun _ q => st.trans q) (k T' v Lc X' hQ)
/-- a pure answer: the value, nothing written, the heap as it was -/
abbrev OwP (v : Option Value) (h : Heap) (v' : Option Value) (h' : Heap) (L : List Loc) : Prop := v' = v ∧ L = [] ∧ h' = h
/-- a pure static method -/
theorem ow_callSP {index : Nat} {y : MethodName} {by' : ByteArray} {mx : Nat} {rt : Option FieldType} {rm : Room} {v : Value} {stk argsL rest : List Value} {ps : List FieldType} {pr : Option FieldType}
    (C : OwC p Z s m meth c own nm bytes maxL ret) (X : Stand p l e R s m args below meth c T locs cells slots) (eT : T.heap = h)
    (w1 : (Jvm.Cond.methodLink own index y).before a0 Z = true) (w2 : (Jvm.Cond.static y).before a0 Z = true) (w3 : (Jvm.Cond.initialized y.cls).before a0 Z = true) (w4 : (Jvm.Cond.code y by' mx rt).before a0 Z = true) (hy : y.cls ≠ "java/lang/invoke/MethodHandle" ∧ y.cls ≠ "java/lang/invoke/VarHandle")
    (M : OwCon l y by' mx rt rm Z argsL.toArray h (OwP (some v) h)) (hrm : rm.cells = 0 ∧ rm.slots = 0) (hds : parseMethodDescriptor y.desc = some ⟨ps, pr⟩) (hln : argsL.length = ps.length) (hst : stk = argsL.reverse ++ rest) (hsz : Ls.size = maxL)
    (hd : decode bytes pc = .ok (.invokestatic index, 3)) (hfr : rm.frames + 1 ≤ R.frames) (hlo : owCat rest + (mx + 11) + rm.locals ≤ R.locals) (hcl : cells ≤ R.cells) (hsl : slots ≤ R.slots) (hp : pc + 3 = pc')
    (k : ∀ T', Stand p l e R s m args below meth c T' locs cells slots → T'.heap = h → OwF p e below D T' (mkF m pc' Ls (v :: rest))) : OwF p e below D T (mkF m pc Ls stk) := by
  refine ow_callS C X eT w1 w2 w3 w4 hy M hds hln hst hsz hd hfr hlo (by rw [hrm.1]; exact hcl) (by rw [hrm.2]; exact hsl) hp fun T' v' L' X' hQ => ?_
  obtain ⟨rfl, rfl, hh⟩ := hQ
  rw [hrm.1, hrm.2, List.append_nil] at X'
  exact k T' X' hh
/-- a pure instance method -/
theorem ow_callVP {K : String} {index : Nat} {y : MethodName} {by' : ByteArray} {mx : Nat} {rt : Option FieldType} {rm : Room} {v : Value} {stk argsL rest : List Value} {ps : List FieldType} {pr : Option FieldType} {a : Addr}
    (C : OwC p Z s m meth c own nm bytes maxL ret) (X : Stand p l e R s m args below meth c T locs cells slots) (eT : T.heap = h)
    (w1 : (Jvm.Cond.methodLink own index y).before a0 Z = true) (w2 : (Jvm.Cond.declares y).before a0 Z = true) (w5 : (Jvm.Cond.selects K y y).before a0 Z = true) (hK : K = y.cls) (w6 : (Jvm.Cond.instanceMethod y).before a0 Z = true) (w3 : (Jvm.Cond.initialized y.cls).before a0 Z = true) (w4 : (Jvm.Cond.code y by' mx rt).before a0 Z = true)
    (hy : y.cls ≠ "java/lang/invoke/MethodHandle" ∧ y.cls ≠ "java/lang/invoke/VarHandle") (E : Exa Z h a K)
    (M : OwCon l y by' mx rt rm Z (.ref a :: argsL).toArray h (OwP (some v) h)) (hrm : rm.cells = 0 ∧ rm.slots = 0) (hds : parseMethodDescriptor y.desc = some ⟨ps, pr⟩) (hln : argsL.length = ps.length) (hst : stk = argsL.reverse ++ .ref a :: rest) (hsz : Ls.size = maxL)
    (hd : decode bytes pc = .ok (.invokevirtual index, 3)) (hfr : rm.frames + 1 ≤ R.frames) (hlo : owCat rest + (mx + 11) + rm.locals ≤ R.locals) (hcl : cells ≤ R.cells) (hsl : slots ≤ R.slots) (hp : pc + 3 = pc')
    (k : ∀ T', Stand p l e R s m args below meth c T' locs cells slots → T'.heap = h → OwF p e below D T' (mkF m pc' Ls (v :: rest))) : OwF p e below D T (mkF m pc Ls stk) := by
  refine ow_callV C X eT w1 w2 w5 hK w6 w3 w4 hy E M hds hln hst hsz hd hfr hlo (by rw [hrm.1]; exact hcl) (by rw [hrm.2]; exact hsl) hp fun T' v' L' X' hQ => ?_
  obtain ⟨rfl, rfl, hh⟩ := hQ
  rw [hrm.1, hrm.2, List.append_nil] at X'
  exact k T' X' hh
/-- a constructor that leaves all as it is -/
theorem ow_callNP {index : Nat} {y : MethodName} {by' : ByteArray} {mx : Nat} {rm : Room} {stk argsL rest : List Value} {ps : List FieldType} {pr : Option FieldType} {a : Addr}
    (C : OwC p Z s m meth c own nm bytes maxL ret) (X : Stand p l e R s m args below meth c T locs cells slots) (eT : T.heap = h) (hni : y.name = "<init>")
    (w1 : (Jvm.Cond.methodLink own index y).before a0 Z = true) (w2 : (Jvm.Cond.instanceMethod y).before a0 Z = true) (w3 : (Jvm.Cond.initialized y.cls).before a0 Z = true) (w4 : (Jvm.Cond.code y by' mx none).before a0 Z = true) (hy : y.cls ≠ "java/lang/invoke/MethodHandle" ∧ y.cls ≠ "java/lang/invoke/VarHandle")
    (M : OwCon l y by' mx none rm Z (.ref a :: argsL).toArray h (OwP none h)) (hrm : rm.cells = 0 ∧ rm.slots = 0) (hds : parseMethodDescriptor y.desc = some ⟨ps, pr⟩) (hln : argsL.length = ps.length) (hst : stk = argsL.reverse ++ .ref a :: rest) (hsz : Ls.size = maxL)
    (hd : decode bytes pc = .ok (.invokespecial index, 3)) (hfr : rm.frames + 1 ≤ R.frames) (hlo : owCat rest + (mx + 11) + rm.locals ≤ R.locals) (hcl : cells ≤ R.cells) (hsl : slots ≤ R.slots) (hp : pc + 3 = pc')
    (k : ∀ T', Stand p l e R s m args below meth c T' locs cells slots → T'.heap = h → OwF p e below D T' (mkF m pc' Ls rest)) : OwF p e below D T (mkF m pc Ls stk) := by
  refine ow_callN C X eT hni w1 w2 w3 w4 hy M hds hln hst hsz hd hfr hlo (by rw [hrm.1]; exact hcl) (by rw [hrm.2]; exact hsl) hp fun T' v' L' X' hQ => ?_
  obtain ⟨rfl, rfl, hh⟩ := hQ
  rw [hrm.1, hrm.2, List.append_nil] at X'
  exact k T' X' hh
end OwnObj
section OwnArr
variable {p : Program} {l : Launch} {e : Env} {R : Room} {s : State} {m : MethodId} {args : Array Value} {below : List Frame} {meth : Method} {c : Code} {T : State} {locs : List Loc} {cells slots : Nat} {Z : State} {a0 : Array Value} {h h' : Heap}
variable {own nm : String} {bytes : ByteArray} {maxL : Nat} {ret : Option FieldType} {D : State → Outcome → Prop} {pc pc' pcT : Nat} {Ls Ls' : Array Slot} {r : List Value}
variable {a b : Addr} {ty : FieldType} {n i : Nat} {f g : Nat → Value} {v : Value} {sl : Nat} {ws : List Addr} {K : String} {kk : Nat}
/-- an array of n places, place j holds f j -/
def OwA (Z : State) (h : Heap) (a : Addr) (ty : FieldType) (n : Nat) (f : Nat → Value) : Prop := ∃ c : Cell, Arr Z h a c ty ∧ c.slots.size = n ∧ ∀ j, j < n → c.slots[j]? = some (f j)
theorem OwA.lt (A : OwA Z h a ty n f) : a < h.size := by obtain ⟨c, A, -⟩ := A; exact A.lt
theorem OwA.ext (A : OwA Z h a ty n f) (E : Ext h h') : OwA Z h' a ty n f := by obtain ⟨c, A, r⟩ := A; exact ⟨c, A.ext E, r⟩
theorem OwA.other (A : OwA Z h b ty n f) (W : Wr h h' a sl v) (q : b ≠ a) : OwA Z h' b ty n f := by obtain ⟨c, A, r⟩ := A; exact ⟨c, A.other W q, r⟩
theorem OwA.keep (A : OwA Z h a ty n f) (K : Keep h h' ws) (q : a ∉ ws) : OwA Z h' a ty n f := by obtain ⟨c, A, r⟩ := A; exact ⟨c, ⟨K.2.1 a c A.1 q, A.2⟩, r⟩
theorem OwA.congr (A : OwA Z h a ty n f) (q : ∀ j, j < n → f j = g j) : OwA Z h a ty n g := by obtain ⟨c, A, S, H⟩ := A; exact ⟨c, A, S, fun j hj => by rw [← q j hj]; exact H j hj⟩
theorem OwA.set (A : OwA Z h a ty n f) (W : Wr h h' a i v) : OwA Z h' a ty n (fun j => if j = i then v else f j) := by
  obtain ⟨c, A, S, H⟩ := A
  refine ⟨c.setSlot i v, A.same W, by rw [sz_set]; exact S, fun j hj => ?_⟩
  show (c.slots.setIfInBounds i v)[j]? = some (if j = i then v else f j)
  by_cases q : j = i
  · subst q
    rw [if_pos rfl, Array.getElem?_setIfInBounds_self_of_lt (by omega)]
  · rw [if_neg q, Array.getElem?_setIfInBounds_ne (fun w => q w.symm)]; exact H j hj
theorem OwA.new {k : ClassId} {z : Int32} (A : Arr Z h a (newA k ty z) ty) : OwA Z h a ty z.toNatClampNeg (fun _ => defaultValue ty) := by
  refine ⟨_, A, sz_new _ _ _, fun j hj => ?_⟩
  show (Array.replicate z.toNatClampNeg (defaultValue ty))[j]? = _
  rw [Array.getElem?_replicate, if_pos hj]
theorem OwA.ne (A : OwA Z h b ty n f) (E : Exa Z h a K) (wi : (Jvm.Cond.instantiable K kk).before a0 Z = true) : a ≠ b := by obtain ⟨c, A, -⟩ := A; exact ne_arr E wi A
theorem ow_newarr {aty : ArrayType} {z : Int32} {N cap : Nat} (C : OwC p Z s m meth c own nm bytes maxL ret) (X : Stand p l e R s m args below meth c T locs cells slots) (eT : T.heap = h) (w : (Jvm.Cond.arrayClass (newarray.typeOf aty)).before a0 Z = true) (hd : decode bytes pc = .ok (.newarray aty, 2))
    (hn : ¬ z < 0) (hN : z.toNatClampNeg = N) (hcap : N ≤ cap) (hb8 : cap * 8 ≤ 536870912) (hc : cells + 1 ≤ R.cells) (hl : slots + cap ≤ R.slots) (hp : pc + 2 = pc')
    (k : ∀ T' h' a, a = h.size → Stand p l e R s m args below meth c T' locs (cells + 1) (slots + cap) → T'.heap = h' → Ext h h' → OwA Z h' a (newarray.typeOf aty) N (fun _ => defaultValue (newarray.typeOf aty)) → OwF p e below D T' (mkF m pc' Ls (.ref a :: r))) : OwF p e below D T (mkF m pc Ls (.int z :: r)) := by
  subst hp; subst hN
  obtain ⟨T', h', cA, X', e', E', A', st⟩ := newP X C.1 C.2.2.2.2.2.2.2 w eT (g := mkF m pc Ls (.int z :: r)) rfl (hb C.2.1 hd) rfl hn hcap hb8 hc hl
  exact OwF.st st (k T' h' _ rfl X' e' E' (OwA.new A'))
theorem ow_arraylength {z : Int32} (C : OwC p Z s m meth c own nm bytes maxL ret) (X : Stand p l e R s m args below meth c T locs cells slots) (eT : T.heap = h) (A : OwA Z h a ty n f) (hz : n.toInt32 = z) (hd : decode bytes pc = .ok (.arraylength, 1)) (hp : pc + 1 = pc')
    (k : OwF p e below D T (mkF m pc' Ls (.int z :: r))) : OwF p e below D T (mkF m pc Ls (.ref a :: r)) := by
  subst hp; subst hz
  obtain ⟨cl, A, S, -⟩ := A
  subst S
  exact OwF.st (fun t q => X.arraylength C.1 (by rw [eT]; exact A.1) (State.isArrayOf_alike C.2.2.2.2.2.2.2.alike A.2.1) (g := mkF m pc Ls (.ref a :: r)) rfl rfl (hb C.2.1 hd) t q) k
theorem ow_iaload {z : Int32} (C : OwC p Z s m meth c own nm bytes maxL ret) (X : Stand p l e R s m args below meth c T locs cells slots) (eT : T.heap = h) (A : OwA Z h a .int n f) (h0 : ¬ z < 0) (hj : z.toNatClampNeg = i) (hlt : i < n) (hv : f i = v) (hd : decode bytes pc = .ok (.iaload, 1)) (hp : pc + 1 = pc')
    (k : OwF p e below D T (mkF m pc' Ls (v :: r))) : OwF p e below D T (mkF m pc Ls (.int z :: .ref a :: r)) := by
  subst hp; subst hj; subst hv
  obtain ⟨cl, A, S, H⟩ := A
  exact OwF.st (fun t q => X.iaload C.1 (by rw [eT]; exact A.1) (State.isArrayOf_alike C.2.2.2.2.2.2.2.alike A.2.1) A.2.2 (fun w => w.elim h0 (fun w => by omega)) (H _ hlt) (g := mkF m pc Ls (.int z :: .ref a :: r)) rfl rfl (hb C.2.1 hd) t q) k
theorem ow_laload {z : Int32} (C : OwC p Z s m meth c own nm bytes maxL ret) (X : Stand p l e R s m args below meth c T locs cells slots) (eT : T.heap = h) (A : OwA Z h a .long n f) (h0 : ¬ z < 0) (hj : z.toNatClampNeg = i) (hlt : i < n) (hv : f i = v) (hd : decode bytes pc = .ok (.laload, 1)) (hp : pc + 1 = pc')
    (k : OwF p e below D T (mkF m pc' Ls (v :: r))) : OwF p e below D T (mkF m pc Ls (.int z :: .ref a :: r)) := by
  subst hp; subst hj; subst hv
  obtain ⟨cl, A, S, H⟩ := A
  exact OwF.st (fun t q => X.laload C.1 (by rw [eT]; exact A.1) (State.isArrayOf_alike C.2.2.2.2.2.2.2.alike A.2.1) A.2.2 (fun w => w.elim h0 (fun w => by omega)) (H _ hlt) (g := mkF m pc Ls (.int z :: .ref a :: r)) rfl rfl (hb C.2.1 hd) t q) k
theorem ow_caload {z : Int32} (C : OwC p Z s m meth c own nm bytes maxL ret) (X : Stand p l e R s m args below meth c T locs cells slots) (eT : T.heap = h) (A : OwA Z h a .char n f) (h0 : ¬ z < 0) (hj : z.toNatClampNeg = i) (hlt : i < n) (hv : f i = v) (hd : decode bytes pc = .ok (.caload, 1)) (hp : pc + 1 = pc')
    (k : OwF p e below D T (mkF m pc' Ls (v :: r))) : OwF p e below D T (mkF m pc Ls (.int z :: .ref a :: r)) := by
  subst hp; subst hj; subst hv
  obtain ⟨cl, A, S, H⟩ := A
  exact OwF.st (fun t q => X.caload C.1 (by rw [eT]; exact A.1) (State.isArrayOf_alike C.2.2.2.2.2.2.2.alike A.2.1) A.2.2 (fun w => w.elim h0 (fun w => by omega)) (H _ hlt) (g := mkF m pc Ls (.int z :: .ref a :: r)) rfl rfl (hb C.2.1 hd) t q) k
theorem ow_saload {z : Int32} (C : OwC p Z s m meth c own nm bytes maxL ret) (X : Stand p l e R s m args below meth c T locs cells slots) (eT : T.heap = h) (A : OwA Z h a .short n f) (h0 : ¬ z < 0) (hj : z.toNatClampNeg = i) (hlt : i < n) (hv : f i = v) (hd : decode bytes pc = .ok (.saload, 1)) (hp : pc + 1 = pc')
    (k : OwF p e below D T (mkF m pc' Ls (v :: r))) : OwF p e below D T (mkF m pc Ls (.int z :: .ref a :: r)) := by
  subst hp; subst hj; subst hv
  obtain ⟨cl, A, S, H⟩ := A
  exact OwF.st (fun t q => X.saload C.1 (by rw [eT]; exact A.1) (State.isArrayOf_alike C.2.2.2.2.2.2.2.alike A.2.1) A.2.2 (fun w => w.elim h0 (fun w => by omega)) (H _ hlt) (g := mkF m pc Ls (.int z :: .ref a :: r)) rfl rfl (hb C.2.1 hd) t q) k
theorem ow_aaload {z : Int32} (C : OwC p Z s m meth c own nm bytes maxL ret) (X : Stand p l e R s m args below meth c T locs cells slots) (eT : T.heap = h) (A : OwA Z h a ty n f) (hty : ty.isReference = true) (h0 : ¬ z < 0) (hj : z.toNatClampNeg = i) (hlt : i < n) (hv : f i = v) (hd : decode bytes pc = .ok (.aaload, 1)) (hp : pc + 1 = pc')
    (k : OwF p e below D T (mkF m pc' Ls (v :: r))) : OwF p e below D T (mkF m pc Ls (.int z :: .ref a :: r)) := by
  subst hp; subst hj; subst hv
  obtain ⟨cl, A, S, H⟩ := A
  exact OwF.st (fun t q => X.aaload C.1 (by rw [eT]; exact A.1) (State.isArrayOf_alike C.2.2.2.2.2.2.2.alike A.2.1) hty A.2.2 (fun w => w.elim h0 (fun w => by omega)) (H _ hlt) (g := mkF m pc Ls (.int z :: .ref a :: r)) rfl rfl (hb C.2.1 hd) t q) k
theorem ow_baload {z : Int32} (C : OwC p Z s m meth c own nm bytes maxL ret) (X : Stand p l e R s m args below meth c T locs cells slots) (eT : T.heap = h) (A : OwA Z h a .byte n f) (h0 : ¬ z < 0) (hj : z.toNatClampNeg = i) (hlt : i < n) (hv : f i = v) (hd : decode bytes pc = .ok (.baload, 1)) (hp : pc + 1 = pc')
    (k : OwF p e below D T (mkF m pc' Ls (v :: r))) : OwF p e below D T (mkF m pc Ls (.int z :: .ref a :: r)) := by
  subst hp; subst hj; subst hv
  obtain ⟨cl, A, S, H⟩ := A
  exact OwF.st (fun t q => X.baloadBytes C.1 (by rw [eT]; exact A.1) (State.isArrayOf_alike C.2.2.2.2.2.2.2.alike A.2.1) A.2.2 (fun w => w.elim h0 (fun w => by omega)) (H _ hlt) (g := mkF m pc Ls (.int z :: .ref a :: r)) rfl rfl (hb C.2.1 hd) t q) k
theorem ow_iastore {z : Int32} {x : Int32} (C : OwC p Z s m meth c own nm bytes maxL ret) (X : Stand p l e R s m args below meth c T locs cells slots) (eT : T.heap = h) (A : OwA Z h a .int n f) (h0 : ¬ z < 0) (hj : z.toNatClampNeg = i) (hlt : i < n) (hd : decode bytes pc = .ok (.iastore, 1)) (hp : pc + 1 = pc')
    (k : ∀ T' h', Stand p l e R s m args below meth c T' (locs ++ [⟨a, i⟩]) cells slots → T'.heap = h' → Wr h h' a i (.int x) → OwF p e below D T' (mkF m pc' Ls r)) : OwF p e below D T (mkF m pc Ls (.int x :: .int z :: .ref a :: r)) := by
  subst hp; subst hj
  obtain ⟨cl, A, S, H⟩ := A
  obtain ⟨T', h', X', e', W', st⟩ := stI X C.1 C.2.2.2.2.2.2.2 eT A (j := z) (x := x) (fun w => w.elim h0 (fun w => by omega)) (g := mkF m pc Ls (.int x :: .int z :: .ref a :: r)) rfl rfl (hb C.2.1 hd)
  exact OwF.st st (k T' h' X' e' W')
theorem ow_lastore {z : Int32} {x : Int64} (C : OwC p Z s m meth c own nm bytes maxL ret) (X : Stand p l e R s m args below meth c T locs cells slots) (eT : T.heap = h) (A : OwA Z h a .long n f) (h0 : ¬ z < 0) (hj : z.toNatClampNeg = i) (hlt : i < n) (hd : decode bytes pc = .ok (.lastore, 1)) (hp : pc + 1 = pc')
    (k : ∀ T' h', Stand p l e R s m args below meth c T' (locs ++ [⟨a, i⟩]) cells slots → T'.heap = h' → Wr h h' a i (.long x) → OwF p e below D T' (mkF m pc' Ls r)) : OwF p e below D T (mkF m pc Ls (.long x :: .int z :: .ref a :: r)) := by
  subst hp; subst hj
  obtain ⟨cl, A, S, H⟩ := A
  obtain ⟨T', h', X', e', W', st⟩ := stJ X C.1 C.2.2.2.2.2.2.2 eT A (j := z) (x := x) (fun w => w.elim h0 (fun w => by omega)) (g := mkF m pc Ls (.long x :: .int z :: .ref a :: r)) rfl rfl (hb C.2.1 hd)
  exact OwF.st st (k T' h' X' e' W')
theorem ow_castore {z : Int32} {x : Int32} (C : OwC p Z s m meth c own nm bytes maxL ret) (X : Stand p l e R s m args below meth c T locs cells slots) (eT : T.heap = h) (A : OwA Z h a .char n f) (h0 : ¬ z < 0) (hj : z.toNatClampNeg = i) (hlt : i < n) (hd : decode bytes pc = .ok (.castore, 1)) (hp : pc + 1 = pc')
    (k : ∀ T' h', Stand p l e R s m args below meth c T' (locs ++ [⟨a, i⟩]) cells slots → T'.heap = h' → Wr h h' a i (.int (nar .char x)) → OwF p e below D T' (mkF m pc' Ls r)) : OwF p e below D T (mkF m pc Ls (.int x :: .int z :: .ref a :: r)) := by
  subst hp; subst hj
  obtain ⟨cl, A, S, H⟩ := A
  obtain ⟨T', h', X', e', W', st⟩ := stC X C.1 C.2.2.2.2.2.2.2 eT A (j := z) (x := x) (fun w => w.elim h0 (fun w => by omega)) (g := mkF m pc Ls (.int x :: .int z :: .ref a :: r)) rfl rfl (hb C.2.1 hd)
  exact OwF.st st (k T' h' X' e' W')
theorem ow_sastore {z : Int32} {x : Int32} (C : OwC p Z s m meth c own nm bytes maxL ret) (X : Stand p l e R s m args below meth c T locs cells slots) (eT : T.heap = h) (A : OwA Z h a .short n f) (h0 : ¬ z < 0) (hj : z.toNatClampNeg = i) (hlt : i < n) (hd : decode bytes pc = .ok (.sastore, 1)) (hp : pc + 1 = pc')
    (k : ∀ T' h', Stand p l e R s m args below meth c T' (locs ++ [⟨a, i⟩]) cells slots → T'.heap = h' → Wr h h' a i (.int (nar .short x)) → OwF p e below D T' (mkF m pc' Ls r)) : OwF p e below D T (mkF m pc Ls (.int x :: .int z :: .ref a :: r)) := by
  subst hp; subst hj
  obtain ⟨cl, A, S, H⟩ := A
  obtain ⟨T', h', X', e', W', st⟩ := stS X C.1 C.2.2.2.2.2.2.2 eT A (j := z) (x := x) (fun w => w.elim h0 (fun w => by omega)) (g := mkF m pc Ls (.int x :: .int z :: .ref a :: r)) rfl rfl (hb C.2.1 hd)
  exact OwF.st st (k T' h' X' e' W')
theorem ow_bastore {z : Int32} {x : Int32} (C : OwC p Z s m meth c own nm bytes maxL ret) (X : Stand p l e R s m args below meth c T locs cells slots) (eT : T.heap = h) (A : OwA Z h a .byte n f) (h0 : ¬ z < 0) (hj : z.toNatClampNeg = i) (hlt : i < n) (hd : decode bytes pc = .ok (.bastore, 1)) (hp : pc + 1 = pc')
    (k : ∀ T' h', Stand p l e R s m args below meth c T' (locs ++ [⟨a, i⟩]) cells slots → T'.heap = h' → Wr h h' a i (.int (nar .byte x)) → OwF p e below D T' (mkF m pc' Ls r)) : OwF p e below D T (mkF m pc Ls (.int x :: .int z :: .ref a :: r)) := by
  subst hp; subst hj
  obtain ⟨cl, A, S, H⟩ := A
  obtain ⟨T', h', X', e', W', st⟩ := stB X C.1 C.2.2.2.2.2.2.2 eT A (j := z) (x := x) (fun w => w.elim h0 (fun w => by omega)) (g := mkF m pc Ls (.int x :: .int z :: .ref a :: r)) rfl rfl (hb C.2.1 hd)
  exact OwF.st st (k T' h' X' e' W')
end OwnArr
section OwnRef
variable {p : Program} {l : Launch} {e : Env} {R : Room} {s : State} {m : MethodId} {args : Array Value} {below : List Frame} {meth : Method} {c : Code} {T : State} {locs : List Loc} {cells slots : Nat} {Z : State} {a0 : Array Value} {h h' : Heap}
variable {own nm : String} {bytes : ByteArray} {maxL : Nat} {ret : Option FieldType} {D : State → Outcome → Prop} {pc pc' pcT : Nat} {Ls Ls' : Array Slot} {r : List Value} {a : Addr} {K K2 : String} {index n : Nat} {v : Value} {t : FieldType}
theorem ow_retA {Q : Option Value → Heap → List Loc → Prop} {kc ks : Nat} (C : OwC p Z s m meth c own nm bytes maxL (some t)) (X : Stand p l e R s m args below meth c T locs cells slots) (hd : decode bytes pc = .ok (.areturn, 1)) (hc : cells ≤ kc) (hs : slots ≤ ks) (hv : v.isRef = true) (ht : t.isReference = true)
    (hQ : Q (some v) T.heap locs) : OwF p e below (OwD s below Q kc ks) T (mkF m pc Ls [v]) := by
  obtain ⟨hx, hby, -, -, -, hret, hlk, -⟩ := C
  obtain ⟨fs, hr, hrun, hended, hW, hsame⟩ := X.leave (v := some v) (fun h => by rw [hret] at h; cases h) hlk
  exact ⟨_, _, X.areturnOut hx hv hret ht (hb hby hd) hr, hrun, hended, _, _, rfl, hQ, ⟨_, rfl⟩, hW, hsame.mono hc hs⟩
theorem ow_instNull (C : OwC p Z s m meth c own nm bytes maxL ret) (X : Stand p l e R s m args below meth c T locs cells slots) (hd : decode bytes pc = .ok (.instanceof index, 3)) (hp : pc + 3 = pc') (k : OwF p e below D T (mkF m pc' Ls (.int 0 :: r))) : OwF p e below D T (mkF m pc Ls (.null :: r)) := by
  subst hp; exact OwF.st (fun t q => X.instanceofNull C.1 (g := mkF m pc Ls (.null :: r)) rfl rfl (hb C.2.1 hd) t q) k
theorem ow_instY (C : OwC p Z s m meth c own nm bytes maxL ret) (X : Stand p l e R s m args below meth c T locs cells slots) (eT : T.heap = h) (w : (Jvm.Cond.classLink own index K).before a0 Z = true) (F : Ins Z h a K true) (hd : decode bytes pc = .ok (.instanceof index, 3)) (hp : pc + 3 = pc')
    (k : ∀ T', Stand p l e R s m args below meth c T' locs cells slots → T'.heap = h → OwF p e below D T' (mkF m pc' Ls (.int 1 :: r))) : OwF p e below D T (mkF m pc Ls (.ref a :: r)) := by
  subst hp
  obtain ⟨T', X', e', st⟩ := instY X C.1 C.2.2.2.2.2.2.2 C.2.2.2.1 w eT F (g := mkF m pc Ls (.ref a :: r)) rfl rfl (hb C.2.1 hd)
  exact OwF.st st (k T' X' e')
theorem ow_instN (C : OwC p Z s m meth c own nm bytes maxL ret) (X : Stand p l e R s m args below meth c T locs cells slots) (eT : T.heap = h) (w : (Jvm.Cond.classLink own index K).before a0 Z = true) (E : Exa Z h a K2) (F : ∃ c t, Z.vm.findClass K2 = some c ∧ Z.vm.findClass K = some t ∧ Z.vm.assignable c t = false) (hd : decode bytes pc = .ok (.instanceof index, 3)) (hp : pc + 3 = pc')
    (k : ∀ T', Stand p l e R s m args below meth c T' locs cells slots → T'.heap = h → OwF p e below D T' (mkF m pc' Ls (.int 0 :: r))) : OwF p e below D T (mkF m pc Ls (.ref a :: r)) := by
  subst hp
  obtain ⟨T', X', e', st⟩ := instNo X C.1 C.2.2.2.2.2.2.2 C.2.2.2.1 w eT E F (g := mkF m pc Ls (.ref a :: r)) rfl rfl (hb C.2.1 hd)
  exact OwF.st st (k T' X' e')
theorem ow_cast (C : OwC p Z s m meth c own nm bytes maxL ret) (X : Stand p l e R s m args below meth c T locs cells slots) (eT : T.heap = h) (w : (Jvm.Cond.classLink own index K).before a0 Z = true) (F : Ins Z h a K true) (hd : decode bytes pc = .ok (.checkcast index, 3)) (hp : pc + 3 = pc')
    (k : ∀ T', Stand p l e R s m args below meth c T' locs cells slots → T'.heap = h → OwF p e below D T' (mkF m pc' Ls (.ref a :: r))) : OwF p e below D T (mkF m pc Ls (.ref a :: r)) := by
  subst hp
  obtain ⟨T', X', e', st⟩ := castY X C.1 C.2.2.2.2.2.2.2 C.2.2.2.1 w eT F (g := mkF m pc Ls (.ref a :: r)) rfl rfl (hb C.2.1 hd)
  exact OwF.st st (k T' X' e')
/-- C's chain of superclasses doesn't meet an instantiable K -/
theorem own_ns0 {O : String} (w : (Jvm.Cond.noSuperclass O).before a0 Z = true) (wk : (Jvm.Cond.instantiable K n).before a0 Z = true) (hn : O ≠ K) : NS Z O K := by
  obtain ⟨c, k, h1, h2, h3, -, -⟩ := Cond.noSuperclass_spec w
  obtain ⟨t, _, g1, -⟩ := Cond.instantiable_spec wk
  have ne := ids_ne h1 g1 hn
  refine ⟨c, t, h1, g1, fun fuel => ?_⟩
  cases fuel with
  | zero => rfl
  | succ f => simp [Vm.isSubclassAux, ne, h2, h3]
theorem own_ns1 {S : String} (w : (Jvm.Cond.superclass K2 S).before a0 Z = true) (wk : (Jvm.Cond.instantiable K n).before a0 Z = true) (q : NS Z K2 K) (hn : K2 ≠ K) : ∃ c t, Z.vm.findClass K2 = some c ∧ Z.vm.findClass K = some t ∧ Z.vm.assignable c t = false := by
  obtain ⟨c, t, h0, g0, n3⟩ := q
  obtain ⟨p, k, kp, h1, h2, h3, h4, h5, -, h7⟩ := Cond.superclass_spec h0 w
  obtain ⟨t', k', g1, g2, g5, g6, -⟩ := Cond.instantiable_spec wk
  cases g0.symm.trans g1
  have ne := ids_ne h0 g0 hn
  have g7 : k'.isInterface = false := by simp only [Bool.or_eq_false_iff] at g6; exact g6.1
  refine ⟨c, t, h0, g0, ?_⟩
  show Z.vm.assignableAux (255 + 1) c t = false
  simp [Vm.assignableAux, ne, h2, g2, h5, g5, g7, Vm.isSubclass, n3]
end OwnRef
theorem own_nm {a b : Addr} (h : a ≠ b) : a ∉ [b] := fun q => h (List.mem_singleton.mp q)
theorem own_kt {n : Nat} {a : Addr} {ws : List Addr} (h : n ≤ a) : ∀ x ∈ [a], x ∈ ws ∨ n ≤ x := fun x q => by cases List.mem_singleton.mp q; exact Or.inr h
theorem own_nil {a : Addr} : a ∉ ([] : List Addr) := fun q => nomatch q
theorem own_all0 {n : Nat} : ∀ x ∈ ([] : List Addr), n ≤ x := fun x q => nomatch q
theorem own_all1 {n : Nat} {a : Addr} (h : n ≤ a) : ∀ x ∈ [a], n ≤ x := fun x q => by cases List.mem_singleton.mp q; exact h
def own_bx (j : Int32) : Value := .long (j - 128).toInt64
theorem own_z {q : Int64} (h1 : ¬ q < (-128 : Int64)) (h2 : ¬ (127 : Int64) < q) : 0 ≤ (q.toInt32 + 128).toInt ∧ (q.toInt32 + 128).toInt < 256 := by
  rw [Int64.lt_iff_toInt_lt] at h1 h2
  have e1 : (-128 : Int64).toInt = -128 := rfl
  have e2 : (127 : Int64).toInt = 127 := rfl
  have e3 : (128 : Int32).toInt = 128 := rfl
  have b1 : q.toInt32.toInt = q.toInt := by rw [Int64.toInt_toInt32, Int.bmod_eq_of_le (by omega) (by omega)]
  have b2 : (q.toInt32 + 128).toInt = q.toInt + 128 := by rw [Int32.toInt_add, b1, e3, Int.bmod_eq_of_le (by omega) (by omega)]
  omega
theorem own_z0 {q : Int64} (h1 : ¬ q < (-128 : Int64)) (h2 : ¬ (127 : Int64) < q) : ¬ (q.toInt32 + 128) < 0 := by
  have := own_z h1 h2
  rw [Int32.lt_iff_toInt_lt]; show ¬ (q.toInt32 + 128).toInt < 0; omega
theorem own_zn {q : Int64} (h1 : ¬ q < (-128 : Int64)) (h2 : ¬ (127 : Int64) < q) : (q.toInt32 + 128).toNatClampNeg < 256 := by
  have := own_z h1 h2
  show (q.toInt32 + 128).toInt.toNat < 256; omega
theorem own_len {t : Term} {args : Array Value} {s : State} {a : Addr} {cl : Cell} {z : Int32} (ev : t.eval args s none [] s = some (.ref a)) (ha : s.arrayAt? a = some cl) (h : (Term.length t).eval args s none [] s = some (.int z)) : cl.slots.size < 2 ^ 31 ∧ cl.slots.size.toInt32 = z := by
  by_cases hn : cl.slots.size < 2147483648
  · rw [len_f ev ha hn] at h; cases h; exact ⟨hn, rfl⟩
  · exfalso; simp [Term.eval, ev, ha, hn] at h
theorem own_sub {args : Array Value} {Z : State} {idx : List Nat} {a b : Term} {x y : Int32} (ha : a.eval args Z none idx Z = some (.int x)) (hb : b.eval args Z none idx Z = some (.int y)) : (Term.sub a b).eval args Z none idx Z = some (.int (x - y)) := by simp [Term.eval, ha, hb]
theorem d6_0 : decode jdk_18_method_1_code 0 = .ok (.aload_n 0, 1) := by decide +kernel
theorem d6_1 : decode jdk_18_method_1_code 1 = .ok (.invokespecial 1, 3) := by decide +kernel
theorem d6_4 : decode jdk_18_method_1_code 4 = .ok (.return_, 1) := by decide +kernel
theorem pn_6 : plainFor (⟨"java/lang/Number", "<init>", "()V"⟩ : MethodName) = true := by first | exact plainFor_of_name (by first | (simp [plainName, overriddenIn]; done) | decide +kernel) | decide +kernel
theorem pd_0 : parseMethodDescriptor "()V" = some ⟨[], none⟩ := by decide +kernel
set_option maxRecDepth 65536 in
set_option maxHeartbeats 40000000 in
theorem rm_num (l : Launch) (Z : State) (a0 : Array Value) (hw : ∀ d ∈ tables_1, d.before a0 Z = true) (o0 : Addr)  (h0 : Heap)   :
    OwCon l (⟨"java/lang/Number", "<init>", "()V"⟩ : MethodName) jdk_18_method_1_code 1 none ({ frames := 1, cells := 0, slots := 0, locals := 12 } : Room) Z #[(.ref o0)] h0 (OwP none h0) := by
  refine OwCon.of pn_6 (Ls := #[.val (.ref o0)]) (fun m => by first | (simp [entryFrame, mkF, argsToLocals, Value.category]; done) | rfl) ?_
  intro p e s m below meth c s₁ C X0 e0
  refine ow_aloadN C X0 d6_0 rfl rfl (pc' := 1) rfl ?_
  refine ow_initO C X0 e0 (hw _ (List.mem_of_getElem? (i := 40) rfl)) (hw _ (List.mem_of_getElem? (i := 7) rfl)) (hw _ (List.mem_of_getElem? (i := 8) rfl)) rfl d6_1 (Nat.le_of_ble_eq_true rfl) (Nat.le_of_ble_eq_true rfl) (pc' := 4) rfl (fun T1 X1 e1 => ?_)
  exact ow_retV C X1 d6_4 (Nat.le_of_ble_eq_true rfl) (Nat.le_of_ble_eq_true rfl) ⟨rfl, rfl, e1⟩
theorem d5_0 : decode jdk_35_method_26_code 0 = .ok (.aload_n 0, 1) := by decide +kernel
theorem d5_1 : decode jdk_35_method_26_code 1 = .ok (.invokespecial 270, 3) := by decide +kernel
theorem d5_4 : decode jdk_35_method_26_code 4 = .ok (.aload_n 0, 1) := by decide +kernel
theorem d5_5 : decode jdk_35_method_26_code 5 = .ok (.lload_n 1, 1) := by decide +kernel
theorem d5_6 : decode jdk_35_method_26_code 6 = .ok (.putfield 273, 3) := by decide +kernel
theorem d5_9 : decode jdk_35_method_26_code 9 = .ok (.return_, 1) := by decide +kernel
theorem pn_5 : plainFor (⟨"java/lang/Long", "<init>", "(J)V"⟩ : MethodName) = true := by first | exact plainFor_of_name (by first | (simp [plainName, overriddenIn]; done) | decide +kernel) | decide +kernel
theorem pd_1 : parseMethodDescriptor "(J)V" = some ⟨[.long], none⟩ := by decide +kernel
set_option maxRecDepth 65536 in
set_option maxHeartbeats 40000000 in
theorem rm_lngi (l : Launch) (Z : State) (a0 : Array Value) (hw : ∀ d ∈ tables_1, d.before a0 Z = true) (o0 : Addr) (q1 : Int64) (u_value_o0 : Value) (h0 : Heap) (n0 : Nat) (E_o0 : Exa Z h0 o0 "java/lang/Long") (g_o0 : n0 ≤ o0) (F_value_o0 : Fld Z h0 o0 "java/lang/Long" "value" "J" u_value_o0) :
    OwCon l (⟨"java/lang/Long", "<init>", "(J)V"⟩ : MethodName) jdk_35_method_26_code 3 none ({ frames := 2, cells := 0, slots := 0, locals := 24 } : Room) Z #[(.ref o0), (.long q1)] h0 (fun v h L => v = none ∧ Fr n0 L ∧ Keep h0 h [o0] ∧ Exa Z h o0 "java/lang/Long" ∧ Fld Z h o0 "java/lang/Long" "value" "J" (.long q1)) := by
  refine OwCon.of pn_5 (Ls := #[.val (.ref o0), .val (.long q1), .second]) (fun m => by first | (simp [entryFrame, mkF, argsToLocals, Value.category]; done) | rfl) ?_
  intro p e s m below meth c s₁ C X0 e0
  refine ow_aloadN C X0 d5_0 rfl rfl (pc' := 1) rfl ?_
  refine ow_callNP C X0 e0 rfl (hw _ (List.mem_of_getElem? (i := 34) rfl)) (hw _ (List.mem_of_getElem? (i := 35) rfl)) (hw _ (List.mem_of_getElem? (i := 38) rfl)) (hw _ (List.mem_of_getElem? (i := 39) rfl)) (by decide) (rm_num l Z a0 hw o0 h0) ⟨rfl, rfl⟩ pd_0 rfl (argsL := []) (rest := []) rfl rfl d5_1 (Nat.le_of_ble_eq_true rfl) (Nat.le_of_ble_eq_true rfl) (Nat.le_of_ble_eq_true rfl) (Nat.le_of_ble_eq_true rfl) (pc' := 4) rfl (fun T2 X2 e2 => ?_)
  refine ow_aloadN C X2 d5_4 rfl rfl (pc' := 5) rfl ?_
  refine ow_lloadN C X2 d5_5 rfl (pc' := 6) rfl ?_
  refine ow_putF C X2 e2 (hw _ (List.mem_of_getElem? (i := 41) rfl)) F_value_o0 E_o0 (Or.inr ⟨(hw _ (List.mem_of_getElem? (i := 42) rfl)), rfl, rfl⟩) (hw _ (List.mem_of_getElem? (i := 29) rfl)) (ty := .long) (by decide) rfl rfl d5_6 (pc' := 9) rfl (fun T3 h3 X3 e3 W3 => ?_)
  have E3_0 := E_o0.wr W3
  have F3_1 := F_value_o0.same W3
  have K3 : Keep h0 h3 [o0] := (Keep.refl h0 [o0]).wr W3 (Or.inl (List.mem_singleton.mpr rfl))
  have N3 := Fr.snoc X3 (Fr.nil n0) g_o0
  refine ow_retV C X3 d5_9 (Nat.le_of_ble_eq_true rfl) (Nat.le_of_ble_eq_true rfl) ?_
  rw [e3]
  exact ⟨rfl, N3, K3, E3_0, F3_1⟩
theorem d1_0 : decode prog_31_method_1_code 0 = .ok (.aload_n 0, 1) := by decide +kernel
theorem d1_1 : decode prog_31_method_1_code 1 = .ok (.invokespecial 1, 3) := by decide +kernel
theorem d1_4 : decode prog_31_method_1_code 4 = .ok (.aload_n 0, 1) := by decide +kernel
theorem d1_5 : decode prog_31_method_1_code 5 = .ok (.lload_n 1, 1) := by decide +kernel
theorem d1_6 : decode prog_31_method_1_code 6 = .ok (.putfield 7, 3) := by decide +kernel
theorem d1_9 : decode prog_31_method_1_code 9 = .ok (.aload_n 0, 1) := by decide +kernel
theorem d1_10 : decode prog_31_method_1_code 10 = .ok (.lload_n 3, 1) := by decide +kernel
theorem d1_11 : decode prog_31_method_1_code 11 = .ok (.putfield 13, 3) := by decide +kernel
theorem d1_14 : decode prog_31_method_1_code 14 = .ok (.return_, 1) := by decide +kernel
theorem pn_1 : plainFor (⟨"com/example/offset/offset/server/Delay", "<init>", "(JJ)V"⟩ : MethodName) = true := by first | exact plainFor_of_name (by first | (simp [plainName, overriddenIn]; done) | decide +kernel) | decide +kernel
theorem pd_2 : parseMethodDescriptor "(JJ)V" = some ⟨[.long, .long], none⟩ := by decide +kernel
set_option maxRecDepth 65536 in
set_option maxHeartbeats 40000000 in
theorem rm_init (l : Launch) (Z : State) (a0 : Array Value) (hw : ∀ d ∈ tables_1, d.before a0 Z = true) (o0 : Addr) (q1 : Int64) (q2 : Int64) (u_dueAt_o0 : Value) (u_id_o0 : Value) (h0 : Heap) (n0 : Nat) (E_o0 : Exa Z h0 o0 "com/example/offset/offset/server/Delay") (g_o0 : n0 ≤ o0) (F_dueAt_o0 : Fld Z h0 o0 "com/example/offset/offset/server/Delay" "dueAt" "J" u_dueAt_o0) (F_id_o0 : Fld Z h0 o0 "com/example/offset/offset/server/Delay" "id" "J" u_id_o0) :
    OwCon l (⟨"com/example/offset/offset/server/Delay", "<init>", "(JJ)V"⟩ : MethodName) prog_31_method_1_code 5 none ({ frames := 1, cells := 0, slots := 0, locals := 12 } : Room) Z #[(.ref o0), (.long q1), (.long q2)] h0 (fun v h L => v = none ∧ Fr n0 L ∧ Keep h0 h [o0] ∧ Exa Z h o0 "com/example/offset/offset/server/Delay" ∧ Fld Z h o0 "com/example/offset/offset/server/Delay" "dueAt" "J" (.long q1) ∧ Fld Z h o0 "com/example/offset/offset/server/Delay" "id" "J" (.long q2)) := by
  refine OwCon.of pn_1 (Ls := #[.val (.ref o0), .val (.long q1), .second, .val (.long q2), .second]) (fun m => by first | (simp [entryFrame, mkF, argsToLocals, Value.category]; done) | rfl) ?_
  intro p e s m below meth c s₁ C X0 e0
  refine ow_aloadN C X0 d1_0 rfl rfl (pc' := 1) rfl ?_
  refine ow_initO C X0 e0 (hw _ (List.mem_of_getElem? (i := 6) rfl)) (hw _ (List.mem_of_getElem? (i := 7) rfl)) (hw _ (List.mem_of_getElem? (i := 8) rfl)) rfl d1_1 (Nat.le_of_ble_eq_true rfl) (Nat.le_of_ble_eq_true rfl) (pc' := 4) rfl (fun T4 X4 e4 => ?_)
  refine ow_aloadN C X4 d1_4 rfl rfl (pc' := 5) rfl ?_
  refine ow_lloadN C X4 d1_5 rfl (pc' := 6) rfl ?_
  refine ow_putF C X4 e4 (hw _ (List.mem_of_getElem? (i := 9) rfl)) F_dueAt_o0 E_o0 (Or.inr ⟨(hw _ (List.mem_of_getElem? (i := 10) rfl)), rfl, rfl⟩) (hw _ (List.mem_of_getElem? (i := 1) rfl)) (ty := .long) (by decide) rfl rfl d1_6 (pc' := 9) rfl (fun T5 h5 X5 e5 W5 => ?_)
  have E5_0 := E_o0.wr W5
  have F5_1 := F_dueAt_o0.same W5
  have F5_2 := F_id_o0.other W5 (Or.inr (slot_ne (Or.inr (hw _ (List.mem_of_getElem? (i := 12) rfl))) (Or.inr (hw _ (List.mem_of_getElem? (i := 10) rfl))) (by decide) (t := .long) (t' := .long) (by decide) (by decide)))
  have K5 : Keep h0 h5 [o0] := (Keep.refl h0 [o0]).wr W5 (Or.inl (List.mem_singleton.mpr rfl))
  have N5 := Fr.snoc X5 (Fr.nil n0) g_o0
  refine ow_aloadN C X5 d1_9 rfl rfl (pc' := 10) rfl ?_
  refine ow_lloadN C X5 d1_10 rfl (pc' := 11) rfl ?_
  refine ow_putF C X5 e5 (hw _ (List.mem_of_getElem? (i := 11) rfl)) F5_2 E5_0 (Or.inr ⟨(hw _ (List.mem_of_getElem? (i := 12) rfl)), rfl, rfl⟩) (hw _ (List.mem_of_getElem? (i := 1) rfl)) (ty := .long) (by decide) rfl rfl d1_11 (pc' := 14) rfl (fun T6 h6 X6 e6 W6 => ?_)
  have E6_0 := E5_0.wr W6
  have F6_1 := F5_1.other W6 (Or.inr (slot_ne (Or.inr (hw _ (List.mem_of_getElem? (i := 10) rfl))) (Or.inr (hw _ (List.mem_of_getElem? (i := 12) rfl))) (by decide) (t := .long) (t' := .long) (by decide) (by decide)))
  have F6_2 := F5_2.same W6
  have K6 : Keep h0 h6 [o0] := K5.wr W6 (Or.inl (List.mem_singleton.mpr rfl))
  have N6 := Fr.snoc X6 N5 g_o0
  refine ow_retV C X6 d1_14 (Nat.le_of_ble_eq_true rfl) (Nat.le_of_ble_eq_true rfl) ?_
  rw [e6]
  exact ⟨rfl, N6, K6, E6_0, F6_1, F6_2⟩
theorem d4_0 : decode prog_31_method_6_code 0 = .ok (.aload_n 1, 1) := by decide +kernel
theorem d4_1 : decode prog_31_method_6_code 1 = .ok (.instanceof 8, 3) := by decide +kernel
theorem d4_4 : decode prog_31_method_6_code 4 = .ok (.ifCond .ne 5, 3) := by decide +kernel
theorem d4_7 : decode prog_31_method_6_code 7 = .ok (.iconst 0, 1) := by decide +kernel
theorem d4_8 : decode prog_31_method_6_code 8 = .ok (.ireturn, 1) := by decide +kernel
theorem d4_9 : decode prog_31_method_6_code 9 = .ok (.aload_n 1, 1) := by decide +kernel
theorem d4_10 : decode prog_31_method_6_code 10 = .ok (.checkcast 8, 3) := by decide +kernel
theorem d4_13 : decode prog_31_method_6_code 13 = .ok (.astore_n 2, 1) := by decide +kernel
theorem d4_14 : decode prog_31_method_6_code 14 = .ok (.aload_n 0, 1) := by decide +kernel
theorem d4_15 : decode prog_31_method_6_code 15 = .ok (.getfield 7, 3) := by decide +kernel
theorem d4_18 : decode prog_31_method_6_code 18 = .ok (.aload_n 2, 1) := by decide +kernel
theorem d4_19 : decode prog_31_method_6_code 19 = .ok (.getfield 7, 3) := by decide +kernel
theorem d4_22 : decode prog_31_method_6_code 22 = .ok (.lcmp, 1) := by decide +kernel
theorem d4_23 : decode prog_31_method_6_code 23 = .ok (.ifCond .ne 19, 3) := by decide +kernel
theorem d4_26 : decode prog_31_method_6_code 26 = .ok (.aload_n 0, 1) := by decide +kernel
theorem d4_27 : decode prog_31_method_6_code 27 = .ok (.getfield 13, 3) := by decide +kernel
theorem d4_30 : decode prog_31_method_6_code 30 = .ok (.aload_n 2, 1) := by decide +kernel
theorem d4_31 : decode prog_31_method_6_code 31 = .ok (.getfield 13, 3) := by decide +kernel
theorem d4_34 : decode prog_31_method_6_code 34 = .ok (.lcmp, 1) := by decide +kernel
theorem d4_35 : decode prog_31_method_6_code 35 = .ok (.ifCond .ne 7, 3) := by decide +kernel
theorem d4_38 : decode prog_31_method_6_code 38 = .ok (.iconst 1, 1) := by decide +kernel
theorem d4_39 : decode prog_31_method_6_code 39 = .ok (.goto 4, 3) := by decide +kernel
theorem d4_42 : decode prog_31_method_6_code 42 = .ok (.iconst 0, 1) := by decide +kernel
theorem d4_43 : decode prog_31_method_6_code 43 = .ok (.ireturn, 1) := by decide +kernel
theorem pn_4 : plainFor (⟨"com/example/offset/offset/server/Delay", "equals", "(Ljava/lang/Object;)Z"⟩ : MethodName) = true := by first | exact plainFor_of_name (by first | (simp [plainName, overriddenIn]; done) | decide +kernel) | decide +kernel
theorem pd_3 : parseMethodDescriptor "(Ljava/lang/Object;)Z" = some ⟨[(.object "java/lang/Object")], (some .boolean)⟩ := by decide +kernel
def own_eqd (u_dueAt_o0 : Int64) (u_dueAt_o1 : Int64) (u_id_o0 : Int64) (u_id_o1 : Int64) : Int32 := if u_dueAt_o0 = u_dueAt_o1 then (if u_id_o0 = u_id_o1 then (1 : Int32) else (0 : Int32)) else (0 : Int32)
theorem own_eqd_01 (u_dueAt_o0 : Int64) (u_dueAt_o1 : Int64) (u_id_o0 : Int64) (u_id_o1 : Int64) : own_eqd u_dueAt_o0 u_dueAt_o1 u_id_o0 u_id_o1 = 0 ∨ own_eqd u_dueAt_o0 u_dueAt_o1 u_id_o0 u_id_o1 = 1 := by
  unfold own_eqd
  repeat' split
  all_goals first | exact Or.inl rfl | exact Or.inr rfl
set_option maxRecDepth 65536 in
set_option maxHeartbeats 40000000 in
theorem rm_eqd (l : Launch) (Z : State) (a0 : Array Value) (hw : ∀ d ∈ tables_1, d.before a0 Z = true) (o0 : Addr) (o1 : Addr) (u_dueAt_o0 : Int64) (u_dueAt_o1 : Int64) (u_id_o0 : Int64) (u_id_o1 : Int64) (h0 : Heap) (E_o1 : Exa Z h0 o1 "com/example/offset/offset/server/Delay") (F_dueAt_o0 : Fld Z h0 o0 "com/example/offset/offset/server/Delay" "dueAt" "J" (.long u_dueAt_o0)) (F_dueAt_o1 : Fld Z h0 o1 "com/example/offset/offset/server/Delay" "dueAt" "J" (.long u_dueAt_o1)) (F_id_o0 : Fld Z h0 o0 "com/example/offset/offset/server/Delay" "id" "J" (.long u_id_o0)) (F_id_o1 : Fld Z h0 o1 "com/example/offset/offset/server/Delay" "id" "J" (.long u_id_o1)) :
    OwCon l (⟨"com/example/offset/offset/server/Delay", "equals", "(Ljava/lang/Object;)Z"⟩ : MethodName) prog_31_method_6_code 3 (some .boolean) ({ frames := 0, cells := 0, slots := 0, locals := 0 } : Room) Z #[(.ref o0), (.ref o1)] h0 (OwP (some (.int (own_eqd u_dueAt_o0 u_dueAt_o1 u_id_o0 u_id_o1))) h0) := by
  refine OwCon.of pn_4 (Ls := #[.val (.ref o0), .val (.ref o1), .unset]) (fun m => by first | (simp [entryFrame, mkF, argsToLocals, Value.category]; done) | rfl) ?_
  intro p e s m below meth c s₁ C X0 e0
  refine ow_aloadN C X0 d4_0 rfl rfl (pc' := 1) rfl ?_
  refine ow_instY C X0 e0 (hw _ (List.mem_of_getElem? (i := 26) rfl)) (Ins.self E_o1) d4_1 (pc' := 4) rfl (fun T7 X7 e7 => ?_)
  refine ow_if_ne C X7 d4_4 (pcT := 9) (pc' := 7) (by decide) (by decide) rfl (fun _ => ?_) (fun bq => absurd bq (by decide))
  refine ow_aloadN C X7 d4_9 rfl rfl (pc' := 10) rfl ?_
  refine ow_cast C X7 e7 (hw _ (List.mem_of_getElem? (i := 26) rfl)) (Ins.self E_o1) d4_10 (pc' := 13) rfl (fun T8 X8 e8 => ?_)
  refine ow_astoreN C X8 d4_13 rfl (Ls' := #[.val (.ref o0), .val (.ref o1), .val (.ref o1)]) rfl (pc' := 14) rfl ?_
  refine ow_aloadN C X8 d4_14 rfl rfl (pc' := 15) rfl ?_
  refine ow_getF C X8 e8 (hw _ (List.mem_of_getElem? (i := 9) rfl)) F_dueAt_o0 d4_15 (pc' := 18) rfl (fun T9 X9 e9 => ?_)
  refine ow_aloadN C X9 d4_18 rfl rfl (pc' := 19) rfl ?_
  refine ow_getF C X9 e9 (hw _ (List.mem_of_getElem? (i := 9) rfl)) F_dueAt_o1 d4_19 (pc' := 22) rfl (fun T10 X10 e10 => ?_)
  refine ow_lcmp C X10 d4_22 (pc' := 23) rfl ?_
  refine ow_lif_ne C X10 d4_23 (pcT := 42) (pc' := 26) (by decide) (by decide) rfl (fun b23 => ?_) (fun b23 => ?_)
  · refine ow_iconst (0 : Int32) C X10 d4_42 (by decide) (pc' := 43) rfl ?_
    exact ow_retZ C X10 d4_43 (Nat.le_of_ble_eq_true rfl) (Nat.le_of_ble_eq_true rfl) (Or.inl rfl) ⟨(show some (Value.int (0 : Int32)) = some (Value.int (own_eqd u_dueAt_o0 u_dueAt_o1 u_id_o0 u_id_o1)) from congrArg (fun z => some (Value.int z)) (by unfold own_eqd; rw [if_neg b23])), rfl, e10⟩
  · refine ow_aloadN C X10 d4_26 rfl rfl (pc' := 27) rfl ?_
    refine ow_getF C X10 e10 (hw _ (List.mem_of_getElem? (i := 11) rfl)) F_id_o0 d4_27 (pc' := 30) rfl (fun T11 X11 e11 => ?_)
    refine ow_aloadN C X11 d4_30 rfl rfl (pc' := 31) rfl ?_
    refine ow_getF C X11 e11 (hw _ (List.mem_of_getElem? (i := 11) rfl)) F_id_o1 d4_31 (pc' := 34) rfl (fun T12 X12 e12 => ?_)
    refine ow_lcmp C X12 d4_34 (pc' := 35) rfl ?_
    refine ow_lif_ne C X12 d4_35 (pcT := 42) (pc' := 38) (by decide) (by decide) rfl (fun b35 => ?_) (fun b35 => ?_)
    · refine ow_iconst (0 : Int32) C X12 d4_42 (by decide) (pc' := 43) rfl ?_
      exact ow_retZ C X12 d4_43 (Nat.le_of_ble_eq_true rfl) (Nat.le_of_ble_eq_true rfl) (Or.inl rfl) ⟨(show some (Value.int (0 : Int32)) = some (Value.int (own_eqd u_dueAt_o0 u_dueAt_o1 u_id_o0 u_id_o1)) from congrArg (fun z => some (Value.int z)) (by unfold own_eqd; rw [if_pos b23, if_neg b35])), rfl, e12⟩
    · refine ow_iconst (1 : Int32) C X12 d4_38 (by decide) (pc' := 39) rfl ?_
      refine ow_goto C X12 d4_39 (pcT := 43) (by decide) (by decide) ?_
      exact ow_retZ C X12 d4_43 (Nat.le_of_ble_eq_true rfl) (Nat.le_of_ble_eq_true rfl) (Or.inr rfl) ⟨(show some (Value.int (1 : Int32)) = some (Value.int (own_eqd u_dueAt_o0 u_dueAt_o1 u_id_o0 u_id_o1)) from congrArg (fun z => some (Value.int z)) (by unfold own_eqd; rw [if_pos b23, if_pos b35])), rfl, e12⟩
def own_eqx  : Int32 := (0 : Int32)
theorem own_eqx_01  : own_eqx  = 0 ∨ own_eqx  = 1 := by
  unfold own_eqx
  repeat' split
  all_goals first | exact Or.inl rfl | exact Or.inr rfl
set_option maxRecDepth 65536 in
set_option maxHeartbeats 40000000 in
theorem rm_eqx (l : Launch) (Z : State) (a0 : Array Value) (hw : ∀ d ∈ tables_1, d.before a0 Z = true) (o0 : Addr) (o1 : Addr)  (h0 : Heap) (E_o1 : Exa Z h0 o1 "java/lang/Long")  :
    OwCon l (⟨"com/example/offset/offset/server/Delay", "equals", "(Ljava/lang/Object;)Z"⟩ : MethodName) prog_31_method_6_code 3 (some .boolean) ({ frames := 0, cells := 0, slots := 0, locals := 0 } : Room) Z #[(.ref o0), (.ref o1)] h0 (OwP (some (.int (own_eqx ))) h0) := by
  refine OwCon.of pn_4 (Ls := #[.val (.ref o0), .val (.ref o1), .unset]) (fun m => by first | (simp [entryFrame, mkF, argsToLocals, Value.category]; done) | rfl) ?_
  intro p e s m below meth c s₁ C X0 e0
  refine ow_aloadN C X0 d4_0 rfl rfl (pc' := 1) rfl ?_
  refine ow_instN C X0 e0 (hw _ (List.mem_of_getElem? (i := 26) rfl)) E_o1 (own_ns1 (hw _ (List.mem_of_getElem? (i := 43) rfl)) (hw _ (List.mem_of_getElem? (i := 1) rfl)) (NS.step (hw _ (List.mem_of_getElem? (i := 43) rfl)) (NS.step (hw _ (List.mem_of_getElem? (i := 44) rfl)) (own_ns0 (hw _ (List.mem_of_getElem? (i := 45) rfl)) (hw _ (List.mem_of_getElem? (i := 1) rfl)) (by decide)) (by decide)) (by decide)) (by decide)) d4_1 (pc' := 4) rfl (fun T13 X13 e13 => ?_)
  refine ow_if_ne C X13 d4_4 (pcT := 9) (pc' := 7) (by decide) (by decide) rfl (fun bq => absurd (by decide) bq) (fun _ => ?_)
  refine ow_iconst (0 : Int32) C X13 d4_7 (by decide) (pc' := 8) rfl ?_
  exact ow_retZ C X13 d4_8 (Nat.le_of_ble_eq_true rfl) (Nat.le_of_ble_eq_true rfl) (Or.inl rfl) ⟨(show some (Value.int (0 : Int32)) = some (Value.int (own_eqx )) from congrArg (fun z => some (Value.int z)) rfl), rfl, e13⟩
def own_eqn  : Int32 := (0 : Int32)
theorem own_eqn_01  : own_eqn  = 0 ∨ own_eqn  = 1 := by
  unfold own_eqn
  repeat' split
  all_goals first | exact Or.inl rfl | exact Or.inr rfl
set_option maxRecDepth 65536 in
set_option maxHeartbeats 40000000 in
theorem rm_eqn (l : Launch) (Z : State) (a0 : Array Value) (hw : ∀ d ∈ tables_1, d.before a0 Z = true) (o0 : Addr)  (h0 : Heap)   :
    OwCon l (⟨"com/example/offset/offset/server/Delay", "equals", "(Ljava/lang/Object;)Z"⟩ : MethodName) prog_31_method_6_code 3 (some .boolean) ({ frames := 0, cells := 0, slots := 0, locals := 0 } : Room) Z #[(.ref o0), .null] h0 (OwP (some (.int (own_eqn ))) h0) := by
  refine OwCon.of pn_4 (Ls := #[.val (.ref o0), .val .null, .unset]) (fun m => by first | (simp [entryFrame, mkF, argsToLocals, Value.category]; done) | rfl) ?_
  intro p e s m below meth c s₁ C X0 e0
  refine ow_aloadN C X0 d4_0 rfl rfl (pc' := 1) rfl ?_
  refine ow_instNull C X0 d4_1 (pc' := 4) rfl ?_
  refine ow_if_ne C X0 d4_4 (pcT := 9) (pc' := 7) (by decide) (by decide) rfl (fun bq => absurd (by decide) bq) (fun _ => ?_)
  refine ow_iconst (0 : Int32) C X0 d4_7 (by decide) (pc' := 8) rfl ?_
  exact ow_retZ C X0 d4_8 (Nat.le_of_ble_eq_true rfl) (Nat.le_of_ble_eq_true rfl) (Or.inl rfl) ⟨(show some (Value.int (0 : Int32)) = some (Value.int (own_eqn )) from congrArg (fun z => some (Value.int z)) rfl), rfl, e0⟩
theorem d3_0 : decode jdk_35_method_24_code 0 = .ok (.sipush 128, 3) := by decide +kernel
theorem d3_3 : decode jdk_35_method_24_code 3 = .ok (.istore_n 2, 1) := by decide +kernel
theorem d3_4 : decode jdk_35_method_24_code 4 = .ok (.lload_n 0, 1) := by decide +kernel
theorem d3_5 : decode jdk_35_method_24_code 5 = .ok (.ldc2_w 230, 3) := by decide +kernel
theorem d3_8 : decode jdk_35_method_24_code 8 = .ok (.lcmp, 1) := by decide +kernel
theorem d3_9 : decode jdk_35_method_24_code 9 = .ok (.ifCond .lt 22, 3) := by decide +kernel
theorem d3_12 : decode jdk_35_method_24_code 12 = .ok (.lload_n 0, 1) := by decide +kernel
theorem d3_13 : decode jdk_35_method_24_code 13 = .ok (.ldc2_w 232, 3) := by decide +kernel
theorem d3_16 : decode jdk_35_method_24_code 16 = .ok (.lcmp, 1) := by decide +kernel
theorem d3_17 : decode jdk_35_method_24_code 17 = .ok (.ifCond .gt 14, 3) := by decide +kernel
theorem d3_20 : decode jdk_35_method_24_code 20 = .ok (.getstatic 234, 3) := by decide +kernel
theorem d3_23 : decode jdk_35_method_24_code 23 = .ok (.lload_n 0, 1) := by decide +kernel
theorem d3_24 : decode jdk_35_method_24_code 24 = .ok (.l2i, 1) := by decide +kernel
theorem d3_25 : decode jdk_35_method_24_code 25 = .ok (.sipush 128, 3) := by decide +kernel
theorem d3_28 : decode jdk_35_method_24_code 28 = .ok (.iadd, 1) := by decide +kernel
theorem d3_29 : decode jdk_35_method_24_code 29 = .ok (.aaload, 1) := by decide +kernel
theorem d3_30 : decode jdk_35_method_24_code 30 = .ok (.areturn, 1) := by decide +kernel
theorem d3_31 : decode jdk_35_method_24_code 31 = .ok (.new 1, 3) := by decide +kernel
theorem d3_34 : decode jdk_35_method_24_code 34 = .ok (.dup, 1) := by decide +kernel
theorem d3_35 : decode jdk_35_method_24_code 35 = .ok (.lload_n 0, 1) := by decide +kernel
theorem d3_36 : decode jdk_35_method_24_code 36 = .ok (.invokespecial 240, 3) := by decide +kernel
theorem d3_39 : decode jdk_35_method_24_code 39 = .ok (.areturn, 1) := by decide +kernel
theorem pn_3 : plainFor (⟨"java/lang/Long", "valueOf", "(J)Ljava/lang/Long;"⟩ : MethodName) = true := by first | exact plainFor_of_name (by first | (simp [plainName, overriddenIn]; done) | decide +kernel) | decide +kernel
theorem pd_4 : parseMethodDescriptor "(J)Ljava/lang/Long;" = some ⟨[.long], (some (.object "java/lang/Long"))⟩ := by decide +kernel
set_option maxRecDepth 65536 in
set_option maxHeartbeats 40000000 in
theorem rm_vof (l : Launch) (Z : State) (a0 : Array Value) (hw : ∀ d ∈ tables_1, d.before a0 Z = true) (q0 : Int64) (ca : Addr) (cl : Cell) (B : Bxs Z ca cl "java/lang/Long" "J" 256 own_bx) (SC : Sta Z Z.heap "java/lang/Long$LongCache" "cache" "[Ljava/lang/Long;" (.ref ca)) (h0 : Heap) (n0 : Nat) (Z0 : n0 ≤ h0.size) (O0 : Old Z n0 h0) :
    OwCon l (⟨"java/lang/Long", "valueOf", "(J)Ljava/lang/Long;"⟩ : MethodName) jdk_35_method_24_code 3 (some (.object "java/lang/Long")) ({ frames := 3, cells := 1, slots := 1, locals := 39 } : Room) Z #[(.long q0)] h0 (fun v h L => ∃ r : Addr, v = some (.ref r) ∧ Fr n0 L ∧ Keep h0 h [] ∧ Exa Z h r "java/lang/Long") := by
  have AA : (OwA Z h0 ca (.object "java/lang/Long") 256 (fun j => (cl.slots[j]?).getD .null)) := ⟨cl, B.1.ext O0.2, B.2.1.trans rfl, fun j hj => by
    have hj' : j < cl.slots.size := by rw [B.2.1]; exact hj
    show cl.slots[j]? = some ((cl.slots[j]?).getD .null)
    rw [Array.getElem?_eq_getElem hj']; rfl⟩
  refine OwCon.of pn_3 (Ls := #[.val (.long q0), .second, .unset]) (fun m => by first | (simp [entryFrame, mkF, argsToLocals, Value.category]; done) | rfl) ?_
  intro p e s m below meth c s₁ C X0 e0
  refine ow_sipush (128 : Int32) C X0 d3_0 (by decide) (pc' := 3) rfl ?_
  refine ow_istoreN C X0 d3_3 (Ls' := #[.val (.long q0), .second, .val (.int (128 : Int32))]) rfl (pc' := 4) rfl ?_
  refine ow_lloadN C X0 d3_4 rfl (pc' := 5) rfl ?_
  refine ow_ldc2 C X0 (hw _ (List.mem_of_getElem? (i := 17) rfl)) d3_5 (pc' := 8) rfl ?_
  refine ow_lcmp C X0 d3_8 (pc' := 9) rfl ?_
  refine ow_lif_lt C X0 d3_9 (pcT := 31) (pc' := 12) (by decide) (by decide) rfl (fun b9 => ?_) (fun b9 => ?_)
  · refine ow_new C X0 e0 (hw _ (List.mem_of_getElem? (i := 28) rfl)) (hw _ (List.mem_of_getElem? (i := 29) rfl)) (hw _ (List.mem_of_getElem? (i := 15) rfl)) d3_31 (Nat.le_of_ble_eq_true rfl) (Nat.le_of_ble_eq_true rfl) (pc' := 34) rfl (fun T14 h14 a14 g14 X14 e14 Ex14 A14 D14 => ?_)
    have Fn14_0 : Fld Z h14 a14 "java/lang/Long" "value" "J" (.long (0 : Int64)) := D14 (Or.inr (hw _ (List.mem_of_getElem? (i := 42) rfl))) (ty := .long) (by decide)
    have Gh14 : h0.size ≤ a14 := Nat.le_trans (Keep.refl h0 []).1 (Nat.le_of_eq g14.symm)
    have K14 : Keep h0 h14 [] := (Keep.refl h0 []).ext Ex14
    have Ge14 : n0 ≤ a14 := Nat.le_trans Z0 (Nat.le_of_eq g14.symm)
    have Z14 : n0 ≤ h14.size := Nat.le_trans Z0 Ex14.1
    refine ow_dup C X14 d3_34 rfl (pc' := 35) rfl ?_
    refine ow_lloadN C X14 d3_35 rfl (pc' := 36) rfl ?_
    refine ow_callN C X14 e14 rfl (hw _ (List.mem_of_getElem? (i := 30) rfl)) (hw _ (List.mem_of_getElem? (i := 31) rfl)) (hw _ (List.mem_of_getElem? (i := 15) rfl)) (hw _ (List.mem_of_getElem? (i := 33) rfl)) (by decide) (rm_lngi l Z a0 hw a14 q0 (.long (0 : Int64)) h14 n0 A14 Ge14 Fn14_0) pd_1 rfl (argsL := [(.long q0)]) (rest := [(.ref a14)]) rfl rfl d3_36 (Nat.le_of_ble_eq_true rfl) (Nat.le_of_ble_eq_true rfl) (Nat.le_of_ble_eq_true rfl) (Nat.le_of_ble_eq_true rfl) (pc' := 39) rfl (fun T15 v15 L15 X15 Q15 => ?_)
    obtain ⟨rfl, N15, K15, E15, Fc15_0⟩ := Q15
    show OwF p e below _ T15 (mkF m 39 #[.val (.long q0), .second, .val (.int (128 : Int32))] [(.ref a14)])
    have E15_0 := E15
    have Kc15 := K14.trans K15 (own_kt Gh14)
    have Nn15 := Fr.app (Fr.nil n0) N15
    have Z15 : n0 ≤ T15.heap.size := Nat.le_trans Z14 K15.1
    refine ow_retA C X15 d3_39 (Nat.le_of_ble_eq_true rfl) (Nat.le_of_ble_eq_true rfl) rfl rfl ?_
    exact ⟨_, rfl, Nn15, Kc15, E15_0⟩
  · refine ow_lloadN C X0 d3_12 rfl (pc' := 13) rfl ?_
    refine ow_ldc2 C X0 (hw _ (List.mem_of_getElem? (i := 18) rfl)) d3_13 (pc' := 16) rfl ?_
    refine ow_lcmp C X0 d3_16 (pc' := 17) rfl ?_
    refine ow_lif_gt C X0 d3_17 (pcT := 31) (pc' := 20) (by decide) (by decide) rfl (fun b17 => ?_) (fun b17 => ?_)
    · refine ow_new C X0 e0 (hw _ (List.mem_of_getElem? (i := 28) rfl)) (hw _ (List.mem_of_getElem? (i := 29) rfl)) (hw _ (List.mem_of_getElem? (i := 15) rfl)) d3_31 (Nat.le_of_ble_eq_true rfl) (Nat.le_of_ble_eq_true rfl) (pc' := 34) rfl (fun T16 h16 a16 g16 X16 e16 Ex16 A16 D16 => ?_)
      have Fn16_0 : Fld Z h16 a16 "java/lang/Long" "value" "J" (.long (0 : Int64)) := D16 (Or.inr (hw _ (List.mem_of_getElem? (i := 42) rfl))) (ty := .long) (by decide)
      have Gh16 : h0.size ≤ a16 := Nat.le_trans (Keep.refl h0 []).1 (Nat.le_of_eq g16.symm)
      have K16 : Keep h0 h16 [] := (Keep.refl h0 []).ext Ex16
      have Ge16 : n0 ≤ a16 := Nat.le_trans Z0 (Nat.le_of_eq g16.symm)
      have Z16 : n0 ≤ h16.size := Nat.le_trans Z0 Ex16.1
      refine ow_dup C X16 d3_34 rfl (pc' := 35) rfl ?_
      refine ow_lloadN C X16 d3_35 rfl (pc' := 36) rfl ?_
      refine ow_callN C X16 e16 rfl (hw _ (List.mem_of_getElem? (i := 30) rfl)) (hw _ (List.mem_of_getElem? (i := 31) rfl)) (hw _ (List.mem_of_getElem? (i := 15) rfl)) (hw _ (List.mem_of_getElem? (i := 33) rfl)) (by decide) (rm_lngi l Z a0 hw a16 q0 (.long (0 : Int64)) h16 n0 A16 Ge16 Fn16_0) pd_1 rfl (argsL := [(.long q0)]) (rest := [(.ref a16)]) rfl rfl d3_36 (Nat.le_of_ble_eq_true rfl) (Nat.le_of_ble_eq_true rfl) (Nat.le_of_ble_eq_true rfl) (Nat.le_of_ble_eq_true rfl) (pc' := 39) rfl (fun T17 v17 L17 X17 Q17 => ?_)
      obtain ⟨rfl, N17, K17, E17, Fc17_0⟩ := Q17
      show OwF p e below _ T17 (mkF m 39 #[.val (.long q0), .second, .val (.int (128 : Int32))] [(.ref a16)])
      have E17_0 := E17
      have Kc17 := K16.trans K17 (own_kt Gh16)
      have Nn17 := Fr.app (Fr.nil n0) N17
      have Z17 : n0 ≤ T17.heap.size := Nat.le_trans Z16 K17.1
      refine ow_retA C X17 d3_39 (Nat.le_of_ble_eq_true rfl) (Nat.le_of_ble_eq_true rfl) rfl rfl ?_
      exact ⟨_, rfl, Nn17, Kc17, E17_0⟩
    · refine ow_getS C X0 e0 (hw _ (List.mem_of_getElem? (i := 19) rfl)) (SC.ext O0.2) d3_20 (pc' := 23) rfl (fun T18 X18 e18 => ?_)
      refine ow_lloadN C X18 d3_23 rfl (pc' := 24) rfl ?_
      refine ow_l2i C X18 d3_24 (pc' := 25) rfl ?_
      refine ow_sipush (128 : Int32) C X18 d3_25 (by decide) (pc' := 28) rfl ?_
      refine ow_iadd C X18 d3_28 (pc' := 29) rfl ?_
      obtain ⟨bx, hb1, hb2, -⟩ := B.2.2.2 (q0.toInt32 + 128) (fun q => q.elim (own_z0 b9 b17) (fun q => by have := own_zn b9 b17; rw [B.2.1] at q; exact absurd this (Nat.not_lt.mpr q)))
      refine ow_aaload C X18 e18 AA rfl (own_z0 b9 b17) rfl (own_zn b9 b17) (v := (.ref bx)) (by show (cl.slots[(q0.toInt32 + (128 : Int32)).toNatClampNeg]?).getD .null = .ref bx; rw [hb1]; rfl) d3_29 (pc' := 30) rfl ?_
      refine ow_retA C X18 d3_30 (Nat.le_of_ble_eq_true rfl) (Nat.le_of_ble_eq_true rfl) rfl rfl ?_
      rw [e18]
      exact ⟨_, rfl, (Fr.nil n0), Keep.refl _ _, (hb2.ext O0.2)⟩
theorem pn_0 : plainFor (⟨"com/example/offset/offset/server/DelayEqualsPinLaw", "law", "(JJJJI)Z"⟩ : MethodName) = true := by first | exact plainFor_of_name (by first | (simp [plainName, overriddenIn]; done) | decide +kernel) | decide +kernel
theorem pd_5 : parseMethodDescriptor "(JJJJI)Z" = some ⟨[.long, .long, .long, .long, .int], (some .boolean)⟩ := by decide +kernel
def own_law_j19 (q0 : Int64) (q1 : Int64) (q2 : Int64) (q3 : Int64) (q4 : Int32) : Int64 := if (q4 &&& (4 : Int32)) = 0 then q2 else q0
def own_law_j35 (q0 : Int64) (q1 : Int64) (q2 : Int64) (q3 : Int64) (q4 : Int32) : Int64 := if (q4 &&& (8 : Int32)) = 0 then q3 else q1
def own_law_j142 (q0 : Int64) (q1 : Int64) (q2 : Int64) (q3 : Int64) (q4 : Int32) : Int32 := if (own_law_j19 q0 q1 q2 q3 q4) = q0 then (if (own_law_j35 q0 q1 q2 q3 q4) = q1 then (1 : Int32) else (0 : Int32)) else (0 : Int32)
theorem own_law_j142_01 (q0 : Int64) (q1 : Int64) (q2 : Int64) (q3 : Int64) (q4 : Int32) : own_law_j142 q0 q1 q2 q3 q4 = 0 ∨ own_law_j142 q0 q1 q2 q3 q4 = 1 := by
  unfold own_law_j142
  repeat' split
  all_goals first | exact Or.inl rfl | exact Or.inr rfl
def own_law (q0 : Int64) (q1 : Int64) (q2 : Int64) (q3 : Int64) (q4 : Int32) : Int32 := if (q4 &&& (3 : Int32)) = 0 then (if (own_eqn) = 0 then (1 : Int32) else (0 : Int32)) else if (q4 &&& (3 : Int32)) = (1 : Int32) then (if (own_eqx) = 0 then (1 : Int32) else (0 : Int32)) else if (q4 &&& (3 : Int32)) = (2 : Int32) then (own_eqd q0 q0 q1 q1) else if (own_eqd q0 (own_law_j19 q0 q1 q2 q3 q4) q1 (own_law_j35 q0 q1 q2 q3 q4)) = (own_law_j142 q0 q1 q2 q3 q4) then (if (own_eqd (own_law_j19 q0 q1 q2 q3 q4) q0 (own_law_j35 q0 q1 q2 q3 q4) q1) = (own_law_j142 q0 q1 q2 q3 q4) then (1 : Int32) else (0 : Int32)) else (0 : Int32)
set_option maxRecDepth 65536 in
set_option maxHeartbeats 40000000 in
theorem rm_law (l : Launch) (Z : State) (a0 : Array Value) (hw : ∀ d ∈ tables_1, d.before a0 Z = true) (q0 : Int64) (q1 : Int64) (q2 : Int64) (q3 : Int64) (q4 : Int32) (h0 : Heap) (n0 : Nat) (Z0 : n0 ≤ h0.size) (ca : Addr) (cl : Cell) (B : Bxs Z ca cl "java/lang/Long" "J" 256 own_bx) (SC : Sta Z Z.heap "java/lang/Long$LongCache" "cache" "[Ljava/lang/Long;" (.ref ca)) (O0 : Old Z n0 h0) :
    OwCon l (⟨"com/example/offset/offset/server/DelayEqualsPinLaw", "law", "(JJJJI)Z"⟩ : MethodName) code maxLocals ret room_1 Z #[(.long q0), (.long q1), (.long q2), (.long q3), (.int q4)] h0 (fun v h L => v = some (.int (own_law q0 q1 q2 q3 q4)) ∧ Fr n0 L) := by
  refine OwCon.of pn_0 (Ls := #[.val (.long q0), .second, .val (.long q1), .second, .val (.long q2), .second, .val (.long q3), .second, .val (.int q4), .unset, .unset, .unset, .unset, .unset, .unset, .unset, .unset, .unset, .unset, .unset]) (fun m => by first | (simp [entryFrame, mkF, argsToLocals, Value.category, maxLocals]; done) | rfl) ?_
  intro p e s m below meth c s₁ C X0 e0
  refine ow_iload C X0 at_0 rfl (pc' := 2) rfl ?_
  refine ow_iconst (3 : Int32) C X0 at_2 (by decide) (pc' := 3) rfl ?_
  refine ow_iand C X0 at_3 (pc' := 4) rfl ?_
  refine ow_istore C X0 at_4 (Ls' := #[.val (.long q0), .second, .val (.long q1), .second, .val (.long q2), .second, .val (.long q3), .second, .val (.int q4), .val (.int (q4 &&& (3 : Int32))), .unset, .unset, .unset, .unset, .unset, .unset, .unset, .unset, .unset, .unset]) rfl (pc' := 6) rfl ?_
  refine ow_iload C X0 at_6 rfl (pc' := 8) rfl ?_
  refine ow_iconst (4 : Int32) C X0 at_8 (by decide) (pc' := 9) rfl ?_
  refine ow_iand C X0 at_9 (pc' := 10) rfl ?_
  refine ow_join X0 e0 (f' := (mkF m 19 #[.val (.long q0), .second, .val (.long q1), .second, .val (.long q2), .second, .val (.long q3), .second, .val (.int q4), .val (.int (q4 &&& (3 : Int32))), .unset, .unset, .unset, .unset, .unset, .unset, .unset, .unset, .unset, .unset] [(.long (own_law_j19 q0 q1 q2 q3 q4))])) ?_ (fun T19 X19 e19 => ?_)
  · intro D19 jk19
    refine ow_if_eq C X0 at_10 (pcT := 17) (pc' := 13) (by decide) (by decide) rfl (fun b10 => ?_) (fun b10 => ?_)
    · refine ow_lload C X0 at_17 rfl (pc' := 19) rfl ?_
      have jq := jk19 s₁ X0 e0
      rw [show (own_law_j19 q0 q1 q2 q3 q4) = q2 from by unfold own_law_j19; (try rw [if_pos b10]); (try rfl)] at jq
      exact jq
    · refine ow_lloadN C X0 at_13 rfl (pc' := 14) rfl ?_
      refine ow_goto C X0 at_14 (pcT := 19) (by decide) (by decide) ?_
      have jq := jk19 s₁ X0 e0
      rw [show (own_law_j19 q0 q1 q2 q3 q4) = q0 from by unfold own_law_j19; (try rw [if_neg b10]); (try rfl)] at jq
      exact jq
  refine ow_lstore C X19 at_19 (Ls' := #[.val (.long q0), .second, .val (.long q1), .second, .val (.long q2), .second, .val (.long q3), .second, .val (.int q4), .val (.int (q4 &&& (3 : Int32))), .val (.long (own_law_j19 q0 q1 q2 q3 q4)), .second, .unset, .unset, .unset, .unset, .unset, .unset, .unset, .unset]) rfl (pc' := 21) rfl ?_
  refine ow_iload C X19 at_21 rfl (pc' := 23) rfl ?_
  refine ow_bipush (8 : Int32) C X19 at_23 (by decide) (pc' := 25) rfl ?_
  refine ow_iand C X19 at_25 (pc' := 26) rfl ?_
  refine ow_join X19 e19 (f' := (mkF m 35 #[.val (.long q0), .second, .val (.long q1), .second, .val (.long q2), .second, .val (.long q3), .second, .val (.int q4), .val (.int (q4 &&& (3 : Int32))), .val (.long (own_law_j19 q0 q1 q2 q3 q4)), .second, .unset, .unset, .unset, .unset, .unset, .unset, .unset, .unset] [(.long (own_law_j35 q0 q1 q2 q3 q4))])) ?_ (fun T20 X20 e20 => ?_)
  · intro D20 jk20
    refine ow_if_eq C X19 at_26 (pcT := 33) (pc' := 29) (by decide) (by decide) rfl (fun b26 => ?_) (fun b26 => ?_)
    · refine ow_lload C X19 at_33 rfl (pc' := 35) rfl ?_
      have jq := jk20 T19 X19 e19
      rw [show (own_law_j35 q0 q1 q2 q3 q4) = q3 from by unfold own_law_j35; (try rw [if_pos b26]); (try rfl)] at jq
      exact jq
    · refine ow_lloadN C X19 at_29 rfl (pc' := 30) rfl ?_
      refine ow_goto C X19 at_30 (pcT := 35) (by decide) (by decide) ?_
      have jq := jk20 T19 X19 e19
      rw [show (own_law_j35 q0 q1 q2 q3 q4) = q1 from by unfold own_law_j35; (try rw [if_neg b26]); (try rfl)] at jq
      exact jq
  refine ow_lstore C X20 at_35 (Ls' := #[.val (.long q0), .second, .val (.long q1), .second, .val (.long q2), .second, .val (.long q3), .second, .val (.int q4), .val (.int (q4 &&& (3 : Int32))), .val (.long (own_law_j19 q0 q1 q2 q3 q4)), .second, .val (.long (own_law_j35 q0 q1 q2 q3 q4)), .second, .unset, .unset, .unset, .unset, .unset, .unset]) rfl (pc' := 37) rfl ?_
  refine ow_new C X20 e20 (hw _ (List.mem_of_getElem? (i := 0) rfl)) (hw _ (List.mem_of_getElem? (i := 1) rfl)) (hw _ (List.mem_of_getElem? (i := 2) rfl)) at_37 (Nat.le_of_ble_eq_true rfl) (Nat.le_of_ble_eq_true rfl) (pc' := 40) rfl (fun T21 h21 a21 g21 X21 e21 Ex21 A21 D21 => ?_)
  have Fn21_0 : Fld Z h21 a21 "com/example/offset/offset/server/Delay" "dueAt" "J" (.long (0 : Int64)) := D21 (Or.inr (hw _ (List.mem_of_getElem? (i := 10) rfl))) (ty := .long) (by decide)
  have Fn21_1 : Fld Z h21 a21 "com/example/offset/offset/server/Delay" "id" "J" (.long (0 : Int64)) := D21 (Or.inr (hw _ (List.mem_of_getElem? (i := 12) rfl))) (ty := .long) (by decide)
  have Ge21 : n0 ≤ a21 := Nat.le_trans Z0 (Nat.le_of_eq g21.symm)
  have Z21 : n0 ≤ h21.size := Nat.le_trans Z0 Ex21.1
  have O21 := O0.ext Ex21
  refine ow_dup C X21 at_40 rfl (pc' := 41) rfl ?_
  refine ow_lloadN C X21 at_41 rfl (pc' := 42) rfl ?_
  refine ow_lloadN C X21 at_42 rfl (pc' := 43) rfl ?_
  refine ow_callN C X21 e21 rfl (hw _ (List.mem_of_getElem? (i := 3) rfl)) (hw _ (List.mem_of_getElem? (i := 4) rfl)) (hw _ (List.mem_of_getElem? (i := 2) rfl)) (hw _ (List.mem_of_getElem? (i := 5) rfl)) (by decide) (rm_init l Z a0 hw a21 q0 q1 (.long (0 : Int64)) (.long (0 : Int64)) h21 n0 A21 Ge21 Fn21_0 Fn21_1) pd_2 rfl (argsL := [(.long q0), (.long q1)]) (rest := [(.ref a21)]) rfl rfl at_43 (Nat.le_of_ble_eq_true rfl) (Nat.le_of_ble_eq_true rfl) (Nat.le_of_ble_eq_true rfl) (Nat.le_of_ble_eq_true rfl) (pc' := 46) rfl (fun T22 v22 L22 X22 Q22 => ?_)
  obtain ⟨rfl, N22, K22, E22, Fc22_0, Fc22_1⟩ := Q22
  show OwF p e below _ T22 (mkF m 46 #[.val (.long q0), .second, .val (.long q1), .second, .val (.long q2), .second, .val (.long q3), .second, .val (.int q4), .val (.int (q4 &&& (3 : Int32))), .val (.long (own_law_j19 q0 q1 q2 q3 q4)), .second, .val (.long (own_law_j35 q0 q1 q2 q3 q4)), .second, .unset, .unset, .unset, .unset, .unset, .unset] [(.ref a21)])
  have E22_0 := E22
  have Nn22 := Fr.app (Fr.nil n0) N22
  have Z22 : n0 ≤ T22.heap.size := Nat.le_trans Z21 K22.1
  have O22 := O21.keep K22 (own_all1 Ge21)
  refine ow_astore C X22 at_46 rfl (Ls' := #[.val (.long q0), .second, .val (.long q1), .second, .val (.long q2), .second, .val (.long q3), .second, .val (.int q4), .val (.int (q4 &&& (3 : Int32))), .val (.long (own_law_j19 q0 q1 q2 q3 q4)), .second, .val (.long (own_law_j35 q0 q1 q2 q3 q4)), .second, .val (.ref a21), .unset, .unset, .unset, .unset, .unset]) rfl (pc' := 48) rfl ?_
  refine ow_new C X22 rfl (hw _ (List.mem_of_getElem? (i := 0) rfl)) (hw _ (List.mem_of_getElem? (i := 1) rfl)) (hw _ (List.mem_of_getElem? (i := 2) rfl)) at_48 (Nat.le_of_ble_eq_true rfl) (Nat.le_of_ble_eq_true rfl) (pc' := 51) rfl (fun T23 h23 a23 g23 X23 e23 Ex23 A23 D23 => ?_)
  have ne23_a21 : a21 ≠ a23 := Nat.ne_of_lt (Nat.lt_of_lt_of_le E22_0.lt (Nat.le_of_eq g23.symm))
  have E23_0 := E22_0.ext Ex23
  have F23_1 := Fc22_0.ext Ex23
  have F23_2 := Fc22_1.ext Ex23
  have Fn23_0 : Fld Z h23 a23 "com/example/offset/offset/server/Delay" "dueAt" "J" (.long (0 : Int64)) := D23 (Or.inr (hw _ (List.mem_of_getElem? (i := 10) rfl))) (ty := .long) (by decide)
  have Fn23_1 : Fld Z h23 a23 "com/example/offset/offset/server/Delay" "id" "J" (.long (0 : Int64)) := D23 (Or.inr (hw _ (List.mem_of_getElem? (i := 12) rfl))) (ty := .long) (by decide)
  have Ge23 : n0 ≤ a23 := Nat.le_trans Z22 (Nat.le_of_eq g23.symm)
  have Z23 : n0 ≤ h23.size := Nat.le_trans Z22 Ex23.1
  have O23 := O22.ext Ex23
  refine ow_dup C X23 at_51 rfl (pc' := 52) rfl ?_
  refine ow_lload C X23 at_52 rfl (pc' := 54) rfl ?_
  refine ow_lload C X23 at_54 rfl (pc' := 56) rfl ?_
  refine ow_callN C X23 e23 rfl (hw _ (List.mem_of_getElem? (i := 3) rfl)) (hw _ (List.mem_of_getElem? (i := 4) rfl)) (hw _ (List.mem_of_getElem? (i := 2) rfl)) (hw _ (List.mem_of_getElem? (i := 5) rfl)) (by decide) (rm_init l Z a0 hw a23 (own_law_j19 q0 q1 q2 q3 q4) (own_law_j35 q0 q1 q2 q3 q4) (.long (0 : Int64)) (.long (0 : Int64)) h23 n0 A23 Ge23 Fn23_0 Fn23_1) pd_2 rfl (argsL := [(.long (own_law_j19 q0 q1 q2 q3 q4)), (.long (own_law_j35 q0 q1 q2 q3 q4))]) (rest := [(.ref a23)]) rfl rfl at_56 (Nat.le_of_ble_eq_true rfl) (Nat.le_of_ble_eq_true rfl) (Nat.le_of_ble_eq_true rfl) (Nat.le_of_ble_eq_true rfl) (pc' := 59) rfl (fun T24 v24 L24 X24 Q24 => ?_)
  obtain ⟨rfl, N24, K24, E24, Fc24_0, Fc24_1⟩ := Q24
  show OwF p e below _ T24 (mkF m 59 #[.val (.long q0), .second, .val (.long q1), .second, .val (.long q2), .second, .val (.long q3), .second, .val (.int q4), .val (.int (q4 &&& (3 : Int32))), .val (.long (own_law_j19 q0 q1 q2 q3 q4)), .second, .val (.long (own_law_j35 q0 q1 q2 q3 q4)), .second, .val (.ref a21), .unset, .unset, .unset, .unset, .unset] [(.ref a23)])
  have E24_0 := E23_0.keep K24
  have E24_1 := E24
  have F24_2 := F23_1.keep K24 (own_nm ne23_a21)
  have F24_3 := F23_2.keep K24 (own_nm ne23_a21)
  have Nn24 := Fr.app Nn22 N24
  have Z24 : n0 ≤ T24.heap.size := Nat.le_trans Z23 K24.1
  have O24 := O23.keep K24 (own_all1 Ge23)
  refine ow_astore C X24 at_59 rfl (Ls' := #[.val (.long q0), .second, .val (.long q1), .second, .val (.long q2), .second, .val (.long q3), .second, .val (.int q4), .val (.int (q4 &&& (3 : Int32))), .val (.long (own_law_j19 q0 q1 q2 q3 q4)), .second, .val (.long (own_law_j35 q0 q1 q2 q3 q4)), .second, .val (.ref a21), .val (.ref a23), .unset, .unset, .unset, .unset]) rfl (pc' := 61) rfl ?_
  refine ow_lloadN C X24 at_61 rfl (pc' := 62) rfl ?_
  refine ow_callS C X24 rfl (hw _ (List.mem_of_getElem? (i := 13) rfl)) (hw _ (List.mem_of_getElem? (i := 14) rfl)) (hw _ (List.mem_of_getElem? (i := 15) rfl)) (hw _ (List.mem_of_getElem? (i := 16) rfl)) (by decide) (rm_vof l Z a0 hw q0 ca cl B SC T24.heap n0 Z24 O24) pd_4 rfl (argsL := [(.long q0)]) (rest := []) rfl rfl at_62 (Nat.le_of_ble_eq_true rfl) (Nat.le_of_ble_eq_true rfl) (Nat.le_of_ble_eq_true rfl) (Nat.le_of_ble_eq_true rfl) (pc' := 65) rfl (fun T25 v25 L25 X25 Q25 => ?_)
  obtain ⟨r25, rfl, N25, K25, Er25⟩ := Q25
  have E25_0 := E24_0.keep K25
  have E25_1 := E24_1.keep K25
  have F25_2 := F24_2.keep K25 own_nil
  have F25_3 := F24_3.keep K25 own_nil
  have F25_4 := Fc24_0.keep K25 own_nil
  have F25_5 := Fc24_1.keep K25 own_nil
  have Nn25 := Fr.app Nn24 N25
  have Z25 : n0 ≤ T25.heap.size := Nat.le_trans Z24 K25.1
  have O25 := O24.keep K25 own_all0
  show OwF p e below _ T25 (mkF m 65 #[.val (.long q0), .second, .val (.long q1), .second, .val (.long q2), .second, .val (.long q3), .second, .val (.int q4), .val (.int (q4 &&& (3 : Int32))), .val (.long (own_law_j19 q0 q1 q2 q3 q4)), .second, .val (.long (own_law_j35 q0 q1 q2 q3 q4)), .second, .val (.ref a21), .val (.ref a23), .unset, .unset, .unset, .unset] [(.ref r25)])
  refine ow_astore C X25 at_65 rfl (Ls' := #[.val (.long q0), .second, .val (.long q1), .second, .val (.long q2), .second, .val (.long q3), .second, .val (.int q4), .val (.int (q4 &&& (3 : Int32))), .val (.long (own_law_j19 q0 q1 q2 q3 q4)), .second, .val (.long (own_law_j35 q0 q1 q2 q3 q4)), .second, .val (.ref a21), .val (.ref a23), .val (.ref r25), .unset, .unset, .unset]) rfl (pc' := 67) rfl ?_
  refine ow_iload C X25 at_67 rfl (pc' := 69) rfl ?_
  refine ow_if_ne C X25 at_69 (pcT := 87) (pc' := 72) (by decide) (by decide) rfl (fun b69 => ?_) (fun b69 => ?_)
  · refine ow_iload C X25 at_87 rfl (pc' := 89) rfl ?_
    refine ow_iconst (1 : Int32) C X25 at_89 (by decide) (pc' := 90) rfl ?_
    refine ow_icmp_ne C X25 at_90 (pcT := 109) (pc' := 93) (by decide) (by decide) rfl (fun b90 => ?_) (fun b90 => ?_)
    · refine ow_iload C X25 at_109 rfl (pc' := 111) rfl ?_
      refine ow_iconst (2 : Int32) C X25 at_111 (by decide) (pc' := 112) rfl ?_
      refine ow_icmp_ne C X25 at_112 (pcT := 123) (pc' := 115) (by decide) (by decide) rfl (fun b112 => ?_) (fun b112 => ?_)
      · refine ow_lload C X25 at_123 rfl (pc' := 125) rfl ?_
        refine ow_lloadN C X25 at_125 rfl (pc' := 126) rfl ?_
        refine ow_lcmp C X25 at_126 (pc' := 127) rfl ?_
        refine ow_join X25 rfl (f' := (mkF m 142 #[.val (.long q0), .second, .val (.long q1), .second, .val (.long q2), .second, .val (.long q3), .second, .val (.int q4), .val (.int (q4 &&& (3 : Int32))), .val (.long (own_law_j19 q0 q1 q2 q3 q4)), .second, .val (.long (own_law_j35 q0 q1 q2 q3 q4)), .second, .val (.ref a21), .val (.ref a23), .val (.ref r25), .unset, .unset, .unset] [(.int (own_law_j142 q0 q1 q2 q3 q4))])) ?_ (fun T29 X29 e29 => ?_)
        · intro D29 jk29
          refine ow_lif_ne C X25 at_127 (pcT := 141) (pc' := 130) (by decide) (by decide) rfl (fun b127 => ?_) (fun b127 => ?_)
          · refine ow_iconst (0 : Int32) C X25 at_141 (by decide) (pc' := 142) rfl ?_
            have jq := jk29 T25 X25 rfl
            rw [show (own_law_j142 q0 q1 q2 q3 q4) = (0 : Int32) from by unfold own_law_j142; (try rw [if_neg b127]); (try rfl)] at jq
            exact jq
          · refine ow_lload C X25 at_130 rfl (pc' := 132) rfl ?_
            refine ow_lloadN C X25 at_132 rfl (pc' := 133) rfl ?_
            refine ow_lcmp C X25 at_133 (pc' := 134) rfl ?_
            refine ow_lif_ne C X25 at_134 (pcT := 141) (pc' := 137) (by decide) (by decide) rfl (fun b134 => ?_) (fun b134 => ?_)
            · refine ow_iconst (0 : Int32) C X25 at_141 (by decide) (pc' := 142) rfl ?_
              have jq := jk29 T25 X25 rfl
              rw [show (own_law_j142 q0 q1 q2 q3 q4) = (0 : Int32) from by unfold own_law_j142; (try rw [if_pos b127]); (try rw [if_neg b134]); (try rfl)] at jq
              exact jq
            · refine ow_iconst (1 : Int32) C X25 at_137 (by decide) (pc' := 138) rfl ?_
              refine ow_goto C X25 at_138 (pcT := 142) (by decide) (by decide) ?_
              have jq := jk29 T25 X25 rfl
              rw [show (own_law_j142 q0 q1 q2 q3 q4) = (1 : Int32) from by unfold own_law_j142; (try rw [if_pos b127]); (try rw [if_pos b134]); (try rfl)] at jq
              exact jq
        refine ow_istore C X29 at_142 (Ls' := #[.val (.long q0), .second, .val (.long q1), .second, .val (.long q2), .second, .val (.long q3), .second, .val (.int q4), .val (.int (q4 &&& (3 : Int32))), .val (.long (own_law_j19 q0 q1 q2 q3 q4)), .second, .val (.long (own_law_j35 q0 q1 q2 q3 q4)), .second, .val (.ref a21), .val (.ref a23), .val (.ref r25), .val (.int (own_law_j142 q0 q1 q2 q3 q4)), .unset, .unset]) rfl (pc' := 144) rfl ?_
        refine ow_aload C X29 at_144 rfl rfl (pc' := 146) rfl ?_
        refine ow_aload C X29 at_146 rfl rfl (pc' := 148) rfl ?_
        refine ow_callVP C X29 e29 (hw _ (List.mem_of_getElem? (i := 21) rfl)) (hw _ (List.mem_of_getElem? (i := 22) rfl)) (hw _ (List.mem_of_getElem? (i := 24) rfl)) rfl (hw _ (List.mem_of_getElem? (i := 23) rfl)) (hw _ (List.mem_of_getElem? (i := 2) rfl)) (hw _ (List.mem_of_getElem? (i := 25) rfl)) (by decide) E25_0 (rm_eqd l Z a0 hw a21 a23 q0 (own_law_j19 q0 q1 q2 q3 q4) q1 (own_law_j35 q0 q1 q2 q3 q4) T25.heap E25_1 F25_2 F25_4 F25_3 F25_5) ⟨rfl, rfl⟩ pd_3 rfl (argsL := [(.ref a23)]) (rest := []) rfl rfl at_148 (Nat.le_of_ble_eq_true rfl) (Nat.le_of_ble_eq_true rfl) (Nat.le_of_ble_eq_true rfl) (Nat.le_of_ble_eq_true rfl) (pc' := 151) rfl (fun T30 X30 e30 => ?_)
        refine ow_istore C X30 at_151 (Ls' := #[.val (.long q0), .second, .val (.long q1), .second, .val (.long q2), .second, .val (.long q3), .second, .val (.int q4), .val (.int (q4 &&& (3 : Int32))), .val (.long (own_law_j19 q0 q1 q2 q3 q4)), .second, .val (.long (own_law_j35 q0 q1 q2 q3 q4)), .second, .val (.ref a21), .val (.ref a23), .val (.ref r25), .val (.int (own_law_j142 q0 q1 q2 q3 q4)), .val (.int (own_eqd q0 (own_law_j19 q0 q1 q2 q3 q4) q1 (own_law_j35 q0 q1 q2 q3 q4))), .unset]) rfl (pc' := 153) rfl ?_
        refine ow_aload C X30 at_153 rfl rfl (pc' := 155) rfl ?_
        refine ow_aload C X30 at_155 rfl rfl (pc' := 157) rfl ?_
        refine ow_callVP C X30 e30 (hw _ (List.mem_of_getElem? (i := 21) rfl)) (hw _ (List.mem_of_getElem? (i := 22) rfl)) (hw _ (List.mem_of_getElem? (i := 24) rfl)) rfl (hw _ (List.mem_of_getElem? (i := 23) rfl)) (hw _ (List.mem_of_getElem? (i := 2) rfl)) (hw _ (List.mem_of_getElem? (i := 25) rfl)) (by decide) E25_1 (rm_eqd l Z a0 hw a23 a21 (own_law_j19 q0 q1 q2 q3 q4) q0 (own_law_j35 q0 q1 q2 q3 q4) q1 T25.heap E25_0 F25_4 F25_2 F25_5 F25_3) ⟨rfl, rfl⟩ pd_3 rfl (argsL := [(.ref a21)]) (rest := []) rfl rfl at_157 (Nat.le_of_ble_eq_true rfl) (Nat.le_of_ble_eq_true rfl) (Nat.le_of_ble_eq_true rfl) (Nat.le_of_ble_eq_true rfl) (pc' := 160) rfl (fun T31 X31 e31 => ?_)
        refine ow_istore C X31 at_160 (Ls' := #[.val (.long q0), .second, .val (.long q1), .second, .val (.long q2), .second, .val (.long q3), .second, .val (.int q4), .val (.int (q4 &&& (3 : Int32))), .val (.long (own_law_j19 q0 q1 q2 q3 q4)), .second, .val (.long (own_law_j35 q0 q1 q2 q3 q4)), .second, .val (.ref a21), .val (.ref a23), .val (.ref r25), .val (.int (own_law_j142 q0 q1 q2 q3 q4)), .val (.int (own_eqd q0 (own_law_j19 q0 q1 q2 q3 q4) q1 (own_law_j35 q0 q1 q2 q3 q4))), .val (.int (own_eqd (own_law_j19 q0 q1 q2 q3 q4) q0 (own_law_j35 q0 q1 q2 q3 q4) q1))]) rfl (pc' := 162) rfl ?_
        refine ow_iload C X31 at_162 rfl (pc' := 164) rfl ?_
        refine ow_iload C X31 at_164 rfl (pc' := 166) rfl ?_
        refine ow_icmp_ne C X31 at_166 (pcT := 180) (pc' := 169) (by decide) (by decide) rfl (fun b166 => ?_) (fun b166 => ?_)
        · refine ow_iconst (0 : Int32) C X31 at_180 (by decide) (pc' := 181) rfl ?_
          exact ow_retZ C X31 at_181 (Nat.le_of_ble_eq_true rfl) (Nat.le_of_ble_eq_true rfl) (Or.inl rfl) ⟨(show some (Value.int (0 : Int32)) = some (Value.int (own_law q0 q1 q2 q3 q4)) from congrArg (fun z => some (Value.int z)) (by unfold own_law; rw [if_neg b69, if_neg b90, if_neg b112, if_neg b166])), Nn25⟩
        · refine ow_iload C X31 at_169 rfl (pc' := 171) rfl ?_
          refine ow_iload C X31 at_171 rfl (pc' := 173) rfl ?_
          refine ow_icmp_ne C X31 at_173 (pcT := 180) (pc' := 176) (by decide) (by decide) rfl (fun b173 => ?_) (fun b173 => ?_)
          · refine ow_iconst (0 : Int32) C X31 at_180 (by decide) (pc' := 181) rfl ?_
            exact ow_retZ C X31 at_181 (Nat.le_of_ble_eq_true rfl) (Nat.le_of_ble_eq_true rfl) (Or.inl rfl) ⟨(show some (Value.int (0 : Int32)) = some (Value.int (own_law q0 q1 q2 q3 q4)) from congrArg (fun z => some (Value.int z)) (by unfold own_law; rw [if_neg b69, if_neg b90, if_neg b112, if_pos b166, if_neg b173])), Nn25⟩
          · refine ow_iconst (1 : Int32) C X31 at_176 (by decide) (pc' := 177) rfl ?_
            refine ow_goto C X31 at_177 (pcT := 181) (by decide) (by decide) ?_
            exact ow_retZ C X31 at_181 (Nat.le_of_ble_eq_true rfl) (Nat.le_of_ble_eq_true rfl) (Or.inr rfl) ⟨(show some (Value.int (1 : Int32)) = some (Value.int (own_law q0 q1 q2 q3 q4)) from congrArg (fun z => some (Value.int z)) (by unfold own_law; rw [if_neg b69, if_neg b90, if_neg b112, if_pos b166, if_pos b173])), Nn25⟩
      · refine ow_aload C X25 at_115 rfl rfl (pc' := 117) rfl ?_
        refine ow_aload C X25 at_117 rfl rfl (pc' := 119) rfl ?_
        refine ow_callVP C X25 rfl (hw _ (List.mem_of_getElem? (i := 21) rfl)) (hw _ (List.mem_of_getElem? (i := 22) rfl)) (hw _ (List.mem_of_getElem? (i := 24) rfl)) rfl (hw _ (List.mem_of_getElem? (i := 23) rfl)) (hw _ (List.mem_of_getElem? (i := 2) rfl)) (hw _ (List.mem_of_getElem? (i := 25) rfl)) (by decide) E25_0 (rm_eqd l Z a0 hw a21 a21 q0 q0 q1 q1 T25.heap E25_0 F25_2 F25_2 F25_3 F25_3) ⟨rfl, rfl⟩ pd_3 rfl (argsL := [(.ref a21)]) (rest := []) rfl rfl at_119 (Nat.le_of_ble_eq_true rfl) (Nat.le_of_ble_eq_true rfl) (Nat.le_of_ble_eq_true rfl) (Nat.le_of_ble_eq_true rfl) (pc' := 122) rfl (fun T28 X28 e28 => ?_)
        exact ow_retZ C X28 at_122 (Nat.le_of_ble_eq_true rfl) (Nat.le_of_ble_eq_true rfl) (own_eqd_01 q0 q0 q1 q1) ⟨(show some (Value.int (own_eqd q0 q0 q1 q1)) = some (Value.int (own_law q0 q1 q2 q3 q4)) from congrArg (fun z => some (Value.int z)) (by unfold own_law; rw [if_neg b69, if_neg b90, if_pos b112])), Nn25⟩
    · refine ow_aload C X25 at_93 rfl rfl (pc' := 95) rfl ?_
      refine ow_aload C X25 at_95 rfl rfl (pc' := 97) rfl ?_
      refine ow_callVP C X25 rfl (hw _ (List.mem_of_getElem? (i := 21) rfl)) (hw _ (List.mem_of_getElem? (i := 22) rfl)) (hw _ (List.mem_of_getElem? (i := 24) rfl)) rfl (hw _ (List.mem_of_getElem? (i := 23) rfl)) (hw _ (List.mem_of_getElem? (i := 2) rfl)) (hw _ (List.mem_of_getElem? (i := 25) rfl)) (by decide) E25_0 (rm_eqx l Z a0 hw a21 r25 T25.heap Er25) ⟨rfl, rfl⟩ pd_3 rfl (argsL := [(.ref r25)]) (rest := []) rfl rfl at_97 (Nat.le_of_ble_eq_true rfl) (Nat.le_of_ble_eq_true rfl) (Nat.le_of_ble_eq_true rfl) (Nat.le_of_ble_eq_true rfl) (pc' := 100) rfl (fun T27 X27 e27 => ?_)
      refine ow_if_ne C X27 at_100 (pcT := 107) (pc' := 103) (by decide) (by decide) rfl (fun b100 => ?_) (fun b100 => ?_)
      · refine ow_iconst (0 : Int32) C X27 at_107 (by decide) (pc' := 108) rfl ?_
        exact ow_retZ C X27 at_108 (Nat.le_of_ble_eq_true rfl) (Nat.le_of_ble_eq_true rfl) (Or.inl rfl) ⟨(show some (Value.int (0 : Int32)) = some (Value.int (own_law q0 q1 q2 q3 q4)) from congrArg (fun z => some (Value.int z)) (by unfold own_law; rw [if_neg b69, if_pos b90, if_neg b100])), Nn25⟩
      · refine ow_iconst (1 : Int32) C X27 at_103 (by decide) (pc' := 104) rfl ?_
        refine ow_goto C X27 at_104 (pcT := 108) (by decide) (by decide) ?_
        exact ow_retZ C X27 at_108 (Nat.le_of_ble_eq_true rfl) (Nat.le_of_ble_eq_true rfl) (Or.inr rfl) ⟨(show some (Value.int (1 : Int32)) = some (Value.int (own_law q0 q1 q2 q3 q4)) from congrArg (fun z => some (Value.int z)) (by unfold own_law; rw [if_neg b69, if_pos b90, if_pos b100])), Nn25⟩
  · refine ow_aload C X25 at_72 rfl rfl (pc' := 74) rfl ?_
    refine ow_aconstNull C X25 at_74 (pc' := 75) rfl ?_
    refine ow_callVP C X25 rfl (hw _ (List.mem_of_getElem? (i := 21) rfl)) (hw _ (List.mem_of_getElem? (i := 22) rfl)) (hw _ (List.mem_of_getElem? (i := 24) rfl)) rfl (hw _ (List.mem_of_getElem? (i := 23) rfl)) (hw _ (List.mem_of_getElem? (i := 2) rfl)) (hw _ (List.mem_of_getElem? (i := 25) rfl)) (by decide) E25_0 (rm_eqn l Z a0 hw a21 T25.heap) ⟨rfl, rfl⟩ pd_3 rfl (argsL := [.null]) (rest := []) rfl rfl at_75 (Nat.le_of_ble_eq_true rfl) (Nat.le_of_ble_eq_true rfl) (Nat.le_of_ble_eq_true rfl) (Nat.le_of_ble_eq_true rfl) (pc' := 78) rfl (fun T26 X26 e26 => ?_)
    refine ow_if_ne C X26 at_78 (pcT := 85) (pc' := 81) (by decide) (by decide) rfl (fun b78 => ?_) (fun b78 => ?_)
    · refine ow_iconst (0 : Int32) C X26 at_85 (by decide) (pc' := 86) rfl ?_
      exact ow_retZ C X26 at_86 (Nat.le_of_ble_eq_true rfl) (Nat.le_of_ble_eq_true rfl) (Or.inl rfl) ⟨(show some (Value.int (0 : Int32)) = some (Value.int (own_law q0 q1 q2 q3 q4)) from congrArg (fun z => some (Value.int z)) (by unfold own_law; rw [if_pos b69, if_neg b78])), Nn25⟩
    · refine ow_iconst (1 : Int32) C X26 at_81 (by decide) (pc' := 82) rfl ?_
      refine ow_goto C X26 at_82 (pcT := 86) (by decide) (by decide) ?_
      exact ow_retZ C X26 at_86 (Nat.le_of_ble_eq_true rfl) (Nat.le_of_ble_eq_true rfl) (Or.inr rfl) ⟨(show some (Value.int (1 : Int32)) = some (Value.int (own_law q0 q1 q2 q3 q4)) from congrArg (fun z => some (Value.int z)) (by unfold own_law; rw [if_pos b69, if_pos b78])), Nn25⟩
theorem own_law_true (q0 : Int64) (q1 : Int64) (q2 : Int64) (q3 : Int64) (q4 : Int32) : own_law q0 q1 q2 q3 q4 = 1 := by
  unfold own_law own_eqx own_eqn
  rw [if_pos rfl]
  have hself : own_eqd q0 q0 q1 q1 = 1 := by unfold own_eqd; rw [if_pos rfl, if_pos rfl]
  rw [hself]
  have hj : ∀ c d, own_eqd q0 c q1 d = (if c = q0 then (if d = q1 then 1 else 0) else 0) := fun c d => by
    unfold own_eqd
    by_cases h : q0 = c
    · rw [if_pos h, if_pos h.symm]
      by_cases h2 : q1 = d
      · rw [if_pos h2, if_pos h2.symm]
      · rw [if_neg h2, if_neg (fun q => h2 q.symm)]
    · rw [if_neg h, if_neg (fun q => h q.symm)]
  have hj2 : ∀ c d, own_eqd c q0 d q1 = (if c = q0 then (if d = q1 then 1 else 0) else 0) := fun c d => rfl
  have e1 : own_eqd q0 (own_law_j19 q0 q1 q2 q3 q4) q1 (own_law_j35 q0 q1 q2 q3 q4) = own_law_j142 q0 q1 q2 q3 q4 := hj _ _
  have e2 : own_eqd (own_law_j19 q0 q1 q2 q3 q4) q0 (own_law_j35 q0 q1 q2 q3 q4) q1 = own_law_j142 q0 q1 q2 q3 q4 := hj2 _ _
  rw [if_pos e1, if_pos e2]
  simp only [if_true, ite_self]
set_option maxRecDepth 65536 in
set_option maxHeartbeats 40000000 in
theorem comes_1 {Post : Tables → Env → Array Value → State → Outcome → State → Prop} (hpost : ∀ tb e args s v u, (limb_1_1.after args s (.returned v) u = true ∧ limb_1_2.after args s (.returned v) u = true ∧ True) → FrameEnd s (.returned v) u (Jvm.fieldLocs frame_1_writes args s ++ Jvm.arrayLocs frame_1_arrays args s ++ Jvm.staticLocs frame_1_statics s) 16 128 → Post tb e args s (.returned v) u) :
    ArmFor flags0 classFile x code maxLocals ret World_1 tables_1 room_1 Calls_1 rest_1 Pre_1 Post := by
  intro l hfl _ _ p e ha hc hk s m args below hf hA hF happ hP
  obtain ⟨hcalls, hrest, hpre⟩ := hP
  obtain ⟨-, -, -, hnamed, -, -, -, hat⟩ := (Spec.applies_iff hf).mp happ
  obtain ⟨hg, hn⟩ := and_e (Cond.before_iff.mp (show (Jvm.Cond.and given_1 narrow_1).before args s = true from hpre))
  obtain ⟨h1, hg0⟩ := and_e hg
  obtain ⟨ha0, hg1⟩ := and_e hg0
  obtain ⟨ha1, hg2⟩ := and_e hg1
  obtain ⟨ha2, hg3⟩ := and_e hg2
  obtain ⟨ha3, hg4⟩ := and_e hg3
  obtain ⟨w0, w1, w2, w3, w4, rfl⟩ : ∃ w0 w1 w2 w3 w4 : Value, args = #[w0, w1, w2, w3, w4] := by
    have hs : args.size = 5 := by simpa [Cond.value, given_1] using h1
    obtain ⟨L⟩ := args
    match L, hs with
    | [w0, w1, w2, w3, w4], _ => exact ⟨w0, w1, w2, w3, w4, rfl⟩
  have hw := fun d (hd : d ∈ tables_1) => atoms_spec (ws := Jvm.Cond.code x code maxLocals ret :: tables_1) hat d (List.mem_cons_of_mem _ hd)
  obtain ⟨q0, ev0⟩ := isL_v ha0
  obtain rfl : w0 = (.long q0) := Option.some.inj ev0
  obtain ⟨q1, ev1⟩ := isL_v ha1
  obtain rfl : w1 = (.long q1) := Option.some.inj ev1
  obtain ⟨q2, ev2⟩ := isL_v ha2
  obtain rfl : w2 = (.long q2) := Option.some.inj ev2
  obtain ⟨q3, ev3⟩ := isL_v ha3
  obtain rfl : w3 = (.long q3) := Option.some.inj ev3
  obtain ⟨q4, ev4⟩ := is_v hg4
  obtain rfl : w4 = (.int q4) := Option.some.inj ev4
  obtain ⟨hsets, hown0⟩ := atoms_of _ (rest_1_c_eq ▸ (show rest_1_c.before _ s = true from hrest))
  obtain ⟨ca, evc⟩ := arr_v (Cond.before_iff.mp (hsets _ (List.mem_of_getElem? (i := 2) rfl)))
  have SC : Sta s s.heap "java/lang/Long$LongCache" "cache" "[Ljava/lang/Long;" (.ref ca) := Sta.start evc (Or.inl (hsets _ (List.mem_of_getElem? (i := 1) rfl)))
  obtain ⟨cl, AC⟩ := Arr.start evc (Cond.before_iff.mp (hsets _ (List.mem_of_getElem? (i := 2) rfl)))
  have hlen := own_len evc (AC.fin (Vm.Alike.refl _)) (eqv_i (Term.int_eval (256)) (Cond.before_iff.mp (hsets _ (List.mem_of_getElem? (i := 4) rfl))))
  have B : Bxs s ca cl "java/lang/Long" "J" 256 own_bx := Bxs.start (fun _ => evc) AC hlen.1 hlen.2 (by decide) (Cond.before_iff.mp (hsets _ (List.mem_of_getElem? (i := 5) rfl))) (fun X j nn hX => eqv_l (i2l_at (own_sub (idx_at nn) (Term.int_eval (128)))) hX)
  obtain ⟨n, o, h1, h2, h3, _, L, rfl, ⟨rfl, N⟩, hq⟩ := rm_law l s _ hw q0 q1 q2 q3 q4 s.heap s.heap.size (Nat.le_refl _) ca cl B SC (Old.start s) tables_1 p e ha hc hk s m _ below hf ((Spec.applies_iff_loose hf).mp happ).1 ⟨rfl, State.Warmed39.refl s, rfl⟩ trivial
  rw [own_law_true q0 q1 q2 q3 q4] at *
  refine ⟨n, _, h1, h2, h3, hpost _ _ _ _ _ _ ⟨Cond.after_iff.mpr rfl, Cond.after_iff.mpr (eq_i res_at (Term.int_eval (1)) rfl), trivial⟩ ⟨hq.1, hq.2.1, (hq.2.2.sift fun y hy => Or.inr (N y hy)).mono (by decide) (by decide)⟩⟩
theorem main_1_1 : Claimed_1_1 := comes_1 fun _ _ _ _ _ _ h hF => ⟨h.1, hF⟩
theorem main_1_2 : Claimed_1_2 := comes_1 fun _ _ _ _ _ _ h hF => ⟨h.2.1, hF⟩
end Jvm.Pilot.@@N@@
namespace Jvm.Pilot.@@N@@
open Jvm Jvm.ClassFile Sem Op Lib Jvm.Free Jvm.Stand Jvm.Pilot.@@N@@.Jvm.D
/-! MADE BY PROGRAM (witnessworld.py) out of the Statement's table words and the real class files: 16 classes; the members and pool entries that the words name. The judged class is class 1, her method 1. -/
namespace start1
open Jvm.ClassFile
def u (s : String) : CpInfo := .utf8 (stringToUtf16 s)
/-- a pool by its gaps: so many unusable entries, then the entry; so many at the end -/
def gap : Nat → List CpInfo → List CpInfo
  | 0, r => r
  | n + 1, r => .unusable :: gap n r
def poolList (es : List (Nat × CpInfo)) (last : Nat) : List CpInfo := es.foldr (fun e r => gap e.1 (e.2 :: r)) (gap last [])
def pool (es : List (Nat × CpInfo)) (last : Nat) : Array CpInfo := ⟨poolList es last⟩
def fileOf (pool : Array CpInfo) (this : Nat) (attrs : Array Attribute := #[]) (ms : Array MethodInfo := #[]) (fl : Nat := 33) (sup : Nat := 0) (ifs : Array Nat := #[]) (fds : Array FieldInfo := #[]) : ClassFile where
  minorVersion := 0
  majorVersion := 65
  constantPool := pool
  accessFlags := fl
  thisClass := this
  superClass := sup
  interfaces := ifs
  fields := fds
  methods := ms
  attributes := attrs
def plain (name : String) (sup : Option ClassId) : Class where
  name := name
  kind := .ordinary
  loader := none
  accessFlags := 33
  super := sup
  interfaces := #[]
  cf := none
  fields := #[]
  methods := #[]
  instanceTypes := #[]
  staticTypes := #[]
  resolved := #[]
  callSites := []
  init := .initialized
  statics := none
  mirror := none

def pool0 : Array CpInfo := pool [(5, u "<init>"), (0, u "()V"), (1, .class_ 10), (1, u "java/lang/Object")] 113

def k0c0 : Code := { maxStack := 0, maxLocals := 1, code := object_method_1_code, exceptionTable := #[], attributes := #[] }
def k0m0 : Method := { name := "<init>", desc := "()V", sig := { parameters := [], returnType := none }, accessFlags := 1, code := some k0c0 }
/-- java/lang/Object -/
def k0 : Class := { plain "java/lang/Object" none with
  accessFlags := 33
  interfaces := #[]
  cf := some (fileOf pool0 8 #[] #[{ accessFlags := 1, nameIndex := 5, descriptorIndex := 6, attributes := #[] }] 33 0 #[] #[])
  fields := #[]
  methods := #[k0m0]
  instanceTypes := #[]
  staticTypes := #[]
  resolved := Array.replicate 124 none
  statics := none }

def pool1 : Array CpInfo := pool [(2, .class_ 4), (1, u "java/lang/Object"), (0, u "<init>"), (0, u "()V"), (0, .class_ 8), (0, u "com/example/offset/offset/server/Delay"), (0, .methodref 7 10), (0, .nameAndType 5 11), (0, u "(JJ)V"), (0, .methodref 13 14), (0, .class_ 15), (0, .nameAndType 16 17), (0, u "java/lang/Long"), (0, u "valueOf"), (0, u "(J)Ljava/lang/Long;"), (0, .methodref 7 19), (0, .nameAndType 20 21), (0, u "equals"), (0, u "(Ljava/lang/Object;)Z"), (0, .class_ 23), (0, u "com/example/offset/offset/server/DelayEqualsPinLaw"), (2, u "law"), (0, u "(JJJJI)Z")] 3

def k1m0 : Method := { name := "<init>", desc := "()V", sig := { parameters := [], returnType := none }, accessFlags := 1, code := none }
def k1c1 : Code := { maxStack := 6, maxLocals := 20, code := code, exceptionTable := #[], attributes := #[] }
def k1m1 : Method := { name := "law", desc := "(JJJJI)Z", sig := { parameters := [.long, .long, .long, .long, .int], returnType := some .boolean }, accessFlags := 9, code := some k1c1 }
/-- com/example/offset/offset/server/DelayEqualsPinLaw -/
def k1 : Class := { plain "com/example/offset/offset/server/DelayEqualsPinLaw" (some 0) with
  accessFlags := 49
  interfaces := #[]
  cf := some (fileOf pool1 22 #[] #[{ accessFlags := 1, nameIndex := 5, descriptorIndex := 6, attributes := #[] }, { accessFlags := 9, nameIndex := 26, descriptorIndex := 27, attributes := #[] }] 49 2 #[] #[])
  fields := #[]
  methods := #[k1m0, k1m1]
  instanceTypes := #[]
  staticTypes := #[]
  resolved := Array.replicate 31 none
  statics := none }

def pool2 : Array CpInfo := pool [(1, .class_ 2), (0, u "java/lang/Comparable"), (0, .class_ 4), (0, u "java/lang/Object")] 7

/-- java/lang/Comparable -/
def k2 : Class := { plain "java/lang/Comparable" (some 0) with
  accessFlags := 1537
  interfaces := #[]
  cf := some (fileOf pool2 1 #[] #[] 1537 3 #[] #[])
  fields := #[]
  methods := #[]
  instanceTypes := #[]
  staticTypes := #[]
  resolved := Array.replicate 12 none
  statics := none }

def pool3 : Array CpInfo := pool [(1, .methodref 2 3), (0, .class_ 4), (0, .nameAndType 5 6), (0, u "java/lang/Object"), (0, u "<init>"), (0, u "()V"), (0, .fieldref 8 9), (0, .class_ 10), (0, .nameAndType 11 12), (0, u "com/example/offset/offset/server/Delay"), (0, u "dueAt"), (0, u "J"), (0, .fieldref 8 14), (0, .nameAndType 15 12), (0, u "id"), (20, .class_ 37), (0, u "java/lang/Comparable"), (0, u "(JJ)V"), (6, u "equals"), (0, u "(Ljava/lang/Object;)Z")] 8

def k3c0 : Code := { maxStack := 3, maxLocals := 5, code := prog_31_method_1_code, exceptionTable := #[], attributes := #[] }
def k3m0 : Method := { name := "<init>", desc := "(JJ)V", sig := { parameters := [.long, .long], returnType := none }, accessFlags := 0, code := some k3c0 }
def k3c1 : Code := { maxStack := 4, maxLocals := 3, code := prog_31_method_6_code, exceptionTable := #[], attributes := #[] }
def k3m1 : Method := { name := "equals", desc := "(Ljava/lang/Object;)Z", sig := { parameters := [(.object "java/lang/Object")], returnType := some .boolean }, accessFlags := 1, code := some k3c1 }
/-- com/example/offset/offset/server/Delay -/
def k3 : Class := { plain "com/example/offset/offset/server/Delay" (some 0) with
  accessFlags := 48
  interfaces := #[2]
  cf := some (fileOf pool3 8 #[] #[{ accessFlags := 0, nameIndex := 5, descriptorIndex := 38, attributes := #[] }, { accessFlags := 1, nameIndex := 45, descriptorIndex := 46, attributes := #[] }] 48 2 #[36] #[{ accessFlags := 18, nameIndex := 11, descriptorIndex := 12, attributes := #[] }, { accessFlags := 18, nameIndex := 15, descriptorIndex := 12, attributes := #[] }])
  fields := #[{ name := "dueAt", type := .long, accessFlags := 18, slot := 0, constantValue := 0 }, { name := "id", type := .long, accessFlags := 18, slot := 1, constantValue := 0 }]
  methods := #[k3m0, k3m1]
  instanceTypes := #[.long, .long]
  staticTypes := #[]
  resolved := Array.replicate 55 none
  statics := none }

def pool4 : Array CpInfo := pool [(1, .class_ 2), (0, u "java/io/Serializable"), (0, .class_ 4), (0, u "java/lang/Object")] 2

/-- java/io/Serializable -/
def k4 : Class := { plain "java/io/Serializable" (some 0) with
  accessFlags := 1537
  interfaces := #[]
  cf := some (fileOf pool4 1 #[] #[] 1537 3 #[] #[])
  fields := #[]
  methods := #[]
  instanceTypes := #[]
  staticTypes := #[]
  resolved := Array.replicate 7 none
  statics := none }

def pool5 : Array CpInfo := pool [(1, .methodref 2 3), (0, .class_ 4), (0, .nameAndType 5 6), (0, u "java/lang/Object"), (0, u "<init>"), (0, u "()V"), (1, .class_ 10), (1, u "java/lang/Number"), (2, .class_ 14), (0, u "java/io/Serializable"), (0, u "serialVersionUID"), (0, u "J")] 20

def k5c0 : Code := { maxStack := 1, maxLocals := 1, code := jdk_18_method_1_code, exceptionTable := #[], attributes := #[] }
def k5m0 : Method := { name := "<init>", desc := "()V", sig := { parameters := [], returnType := none }, accessFlags := 1, code := some k5c0 }
/-- java/lang/Number -/
def k5 : Class := { plain "java/lang/Number" (some 0) with
  accessFlags := 1057
  interfaces := #[4]
  cf := some (fileOf pool5 8 #[] #[{ accessFlags := 1, nameIndex := 5, descriptorIndex := 6, attributes := #[] }] 1057 2 #[13] #[{ accessFlags := 26, nameIndex := 15, descriptorIndex := 16, attributes := #[] }])
  fields := #[{ name := "serialVersionUID", type := .long, accessFlags := 26, slot := 0, constantValue := 0 }]
  methods := #[k5m0]
  instanceTypes := #[]
  staticTypes := #[.long]
  resolved := Array.replicate 37 none
  statics := none }

def pool6 : Array CpInfo := pool [(1, .class_ 2), (0, u "java/lang/constant/Constable"), (0, .class_ 4), (0, u "java/lang/Object")] 6

/-- java/lang/constant/Constable -/
def k6 : Class := { plain "java/lang/constant/Constable" (some 0) with
  accessFlags := 1537
  interfaces := #[]
  cf := some (fileOf pool6 1 #[] #[] 1537 3 #[] #[])
  fields := #[]
  methods := #[]
  instanceTypes := #[]
  staticTypes := #[]
  resolved := Array.replicate 11 none
  statics := none }

def pool7 : Array CpInfo := pool [(1, .class_ 2), (0, u "java/lang/constant/ConstantDesc"), (0, .class_ 4), (0, u "java/lang/Object")] 32

/-- java/lang/constant/ConstantDesc -/
def k7 : Class := { plain "java/lang/constant/ConstantDesc" (some 0) with
  accessFlags := 1537
  interfaces := #[]
  cf := some (fileOf pool7 1 #[] #[] 1537 3 #[] #[])
  fields := #[]
  methods := #[]
  instanceTypes := #[]
  staticTypes := #[]
  resolved := Array.replicate 37 none
  statics := none }

def pool8 : Array CpInfo := pool [(1, .class_ 2), (0, u "java/lang/Long"), (55, .nameAndType 59 60), (0, u "<init>"), (0, u "()V"), (24, u "valueOf"), (143, u "(J)Ljava/lang/Long;"), (0, .long 18446744073709551488), (1, .long 127), (1, .fieldref 235 236), (0, .class_ 237), (0, .nameAndType 238 239), (0, u "java/lang/Long$LongCache"), (0, u "cache"), (0, u "[Ljava/lang/Long;"), (0, .methodref 1 241), (0, .nameAndType 59 242), (0, u "(J)V"), (27, .methodref 271 58), (0, .class_ 272), (0, u "java/lang/Number"), (0, .fieldref 1 274), (0, .nameAndType 275 276), (0, u "value"), (0, u "J"), (84, u "TYPE"), (0, u "Ljava/lang/Class;"), (0, .class_ 364), (0, u "java/lang/Comparable"), (0, .class_ 366), (0, u "java/lang/constant/Constable"), (0, .class_ 368), (0, u "java/lang/constant/ConstantDesc"), (0, u "MIN_VALUE"), (1, u "MAX_VALUE"), (4, u "SIZE"), (0, u "I"), (1, u "BYTES"), (1, u "serialVersionUID")] 142

def k8c0 : Code := { maxStack := 4, maxLocals := 3, code := jdk_35_method_24_code, exceptionTable := #[], attributes := #[] }
def k8m0 : Method := { name := "valueOf", desc := "(J)Ljava/lang/Long;", sig := { parameters := [.long], returnType := some (.object "java/lang/Long") }, accessFlags := 9, code := some k8c0 }
def k8c1 : Code := { maxStack := 3, maxLocals := 3, code := jdk_35_method_26_code, exceptionTable := #[], attributes := #[] }
def k8m1 : Method := { name := "<init>", desc := "(J)V", sig := { parameters := [.long], returnType := none }, accessFlags := 1, code := some k8c1 }
/-- java/lang/Long -/
def k8 : Class := { plain "java/lang/Long" (some 5) with
  accessFlags := 49
  interfaces := #[2, 6, 7]
  cf := some (fileOf pool8 1 #[.nestMembers #[235]] #[{ accessFlags := 9, nameIndex := 85, descriptorIndex := 229, attributes := #[] }, { accessFlags := 1, nameIndex := 59, descriptorIndex := 242, attributes := #[] }] 49 271 #[363, 365, 367] #[{ accessFlags := 25, nameIndex := 369, descriptorIndex := 276, attributes := #[] }, { accessFlags := 25, nameIndex := 371, descriptorIndex := 276, attributes := #[] }, { accessFlags := 25, nameIndex := 361, descriptorIndex := 362, attributes := #[] }, { accessFlags := 18, nameIndex := 275, descriptorIndex := 276, attributes := #[] }, { accessFlags := 25, nameIndex := 376, descriptorIndex := 377, attributes := #[] }, { accessFlags := 25, nameIndex := 379, descriptorIndex := 377, attributes := #[] }, { accessFlags := 26, nameIndex := 381, descriptorIndex := 276, attributes := #[] }])
  fields := #[{ name := "MIN_VALUE", type := .long, accessFlags := 25, slot := 0, constantValue := 0 }, { name := "MAX_VALUE", type := .long, accessFlags := 25, slot := 1, constantValue := 0 }, { name := "TYPE", type := (.object "java/lang/Class"), accessFlags := 25, slot := 2, constantValue := 0 }, { name := "value", type := .long, accessFlags := 18, slot := 0, constantValue := 0 }, { name := "SIZE", type := .int, accessFlags := 25, slot := 3, constantValue := 0 }, { name := "BYTES", type := .int, accessFlags := 25, slot := 4, constantValue := 0 }, { name := "serialVersionUID", type := .long, accessFlags := 26, slot := 5, constantValue := 0 }]
  methods := #[k8m0, k8m1]
  instanceTypes := #[.long]
  staticTypes := #[.long, .long, (.object "java/lang/Class"), .int, .int, .long]
  resolved := Array.replicate 524 none
  statics := none }

def pool9 : Array CpInfo := pool [(2, .class_ 4), (1, u "java/lang/Object"), (0, u "<init>"), (0, u "()V"), (0, .class_ 8), (0, u "java/lang/Long"), (7, .class_ 18), (1, u "java/lang/Long$LongCache"), (0, u "$assertionsDisabled"), (0, u "Z"), (8, u "archivedCache"), (0, u "[Ljava/lang/Long;"), (7, u "cache")] 24

def k9m0 : Method := { name := "<init>", desc := "()V", sig := { parameters := [], returnType := none }, accessFlags := 2, code := none }
/-- java/lang/Long$LongCache -/
def k9 : Class := { plain "java/lang/Long$LongCache" (some 0) with
  accessFlags := 48
  interfaces := #[]
  cf := some (fileOf pool9 16 #[.nestHost 7] #[{ accessFlags := 2, nameIndex := 5, descriptorIndex := 6, attributes := #[] }] 48 2 #[] #[{ accessFlags := 24, nameIndex := 38, descriptorIndex := 30, attributes := #[] }, { accessFlags := 8, nameIndex := 29, descriptorIndex := 30, attributes := #[] }, { accessFlags := 4120, nameIndex := 19, descriptorIndex := 20, attributes := #[] }])
  fields := #[{ name := "cache", type := (.array (.object "java/lang/Long")), accessFlags := 24, slot := 0, constantValue := 0 }, { name := "archivedCache", type := (.array (.object "java/lang/Long")), accessFlags := 8, slot := 1, constantValue := 0 }, { name := "$assertionsDisabled", type := .boolean, accessFlags := 4120, slot := 2, constantValue := 0 }]
  methods := #[k9m0]
  instanceTypes := #[]
  staticTypes := #[(.array (.object "java/lang/Long")), (.array (.object "java/lang/Long")), .boolean]
  resolved := Array.replicate 63 none
  statics := some 0 }

def pool10 : Array CpInfo := pool [(1, u "java/lang/Cloneable"), (0, .class_ 1), (0, u "java/lang/Object"), (0, .class_ 3)] 3

/-- java/lang/Cloneable -/
def k10 : Class := { plain "java/lang/Cloneable" (some 0) with
  accessFlags := 1537
  interfaces := #[]
  cf := some (fileOf pool10 2 #[] #[] 1537 4 #[] #[])
  fields := #[]
  methods := #[]
  instanceTypes := #[]
  staticTypes := #[]
  resolved := Array.replicate 8 none
  statics := none }

/-- the primitive byte -/
def k11 : Class := { plain "byte" none with kind := .primitive 'B', accessFlags := 0x411 }
/-- [B -/
def k12 : Class := { plain "[B" (some 0) with kind := .array 11 .byte, interfaces := #[10, 4], accessFlags := 1041 }

/-- the primitive int -/
def k13 : Class := { plain "int" none with kind := .primitive 'I', accessFlags := 0x411 }
/-- [I -/
def k14 : Class := { plain "[I" (some 0) with kind := .array 13 .int, interfaces := #[10, 4], accessFlags := 1041 }

/-- [Ljava/lang/Long; -/
def k15 : Class := { plain "[Ljava/lang/Long;" (some 0) with kind := .array 8 (.object "java/lang/Long"), interfaces := #[10, 4], accessFlags := 1041 }

def heap : Heap := #[{ cls := 9, slots := #[.ref 1, .null, .int 0], vm := .statics 9 },
  { cls := 15, slots := #[.ref 2, .ref 3, .ref 4, .ref 5, .ref 6, .ref 7, .ref 8, .ref 9, .ref 10, .ref 11, .ref 12, .ref 13, .ref 14, .ref 15, .ref 16, .ref 17, .ref 18, .ref 19, .ref 20, .ref 21, .ref 22, .ref 23, .ref 24, .ref 25, .ref 26, .ref 27, .ref 28, .ref 29, .ref 30, .ref 31, .ref 32, .ref 33, .ref 34, .ref 35, .ref 36, .ref 37, .ref 38, .ref 39, .ref 40, .ref 41, .ref 42, .ref 43, .ref 44, .ref 45, .ref 46, .ref 47, .ref 48, .ref 49, .ref 50, .ref 51, .ref 52, .ref 53, .ref 54, .ref 55, .ref 56, .ref 57, .ref 58, .ref 59, .ref 60, .ref 61, .ref 62, .ref 63, .ref 64, .ref 65, .ref 66, .ref 67, .ref 68, .ref 69, .ref 70, .ref 71, .ref 72, .ref 73, .ref 74, .ref 75, .ref 76, .ref 77, .ref 78, .ref 79, .ref 80, .ref 81, .ref 82, .ref 83, .ref 84, .ref 85, .ref 86, .ref 87, .ref 88, .ref 89, .ref 90, .ref 91, .ref 92, .ref 93, .ref 94, .ref 95, .ref 96, .ref 97, .ref 98, .ref 99, .ref 100, .ref 101, .ref 102, .ref 103, .ref 104, .ref 105, .ref 106, .ref 107, .ref 108, .ref 109, .ref 110, .ref 111, .ref 112, .ref 113, .ref 114, .ref 115, .ref 116, .ref 117, .ref 118, .ref 119, .ref 120, .ref 121, .ref 122, .ref 123, .ref 124, .ref 125, .ref 126, .ref 127, .ref 128, .ref 129, .ref 130, .ref 131, .ref 132, .ref 133, .ref 134, .ref 135, .ref 136, .ref 137, .ref 138, .ref 139, .ref 140, .ref 141, .ref 142, .ref 143, .ref 144, .ref 145, .ref 146, .ref 147, .ref 148, .ref 149, .ref 150, .ref 151, .ref 152, .ref 153, .ref 154, .ref 155, .ref 156, .ref 157, .ref 158, .ref 159, .ref 160, .ref 161, .ref 162, .ref 163, .ref 164, .ref 165, .ref 166, .ref 167, .ref 168, .ref 169, .ref 170, .ref 171, .ref 172, .ref 173, .ref 174, .ref 175, .ref 176, .ref 177, .ref 178, .ref 179, .ref 180, .ref 181, .ref 182, .ref 183, .ref 184, .ref 185, .ref 186, .ref 187, .ref 188, .ref 189, .ref 190, .ref 191, .ref 192, .ref 193, .ref 194, .ref 195, .ref 196, .ref 197, .ref 198, .ref 199, .ref 200, .ref 201, .ref 202, .ref 203, .ref 204, .ref 205, .ref 206, .ref 207, .ref 208, .ref 209, .ref 210, .ref 211, .ref 212, .ref 213, .ref 214, .ref 215, .ref 216, .ref 217, .ref 218, .ref 219, .ref 220, .ref 221, .ref 222, .ref 223, .ref 224, .ref 225, .ref 226, .ref 227, .ref 228, .ref 229, .ref 230, .ref 231, .ref 232, .ref 233, .ref 234, .ref 235, .ref 236, .ref 237, .ref 238, .ref 239, .ref 240, .ref 241, .ref 242, .ref 243, .ref 244, .ref 245, .ref 246, .ref 247, .ref 248, .ref 249, .ref 250, .ref 251, .ref 252, .ref 253, .ref 254, .ref 255, .ref 256, .ref 257], vm := .none },
  { cls := 8, slots := #[.long (-128)], vm := .none },
  { cls := 8, slots := #[.long (-127)], vm := .none },
  { cls := 8, slots := #[.long (-126)], vm := .none },
  { cls := 8, slots := #[.long (-125)], vm := .none },
  { cls := 8, slots := #[.long (-124)], vm := .none },
  { cls := 8, slots := #[.long (-123)], vm := .none },
  { cls := 8, slots := #[.long (-122)], vm := .none },
  { cls := 8, slots := #[.long (-121)], vm := .none },
  { cls := 8, slots := #[.long (-120)], vm := .none },
  { cls := 8, slots := #[.long (-119)], vm := .none },
  { cls := 8, slots := #[.long (-118)], vm := .none },
  { cls := 8, slots := #[.long (-117)], vm := .none },
  { cls := 8, slots := #[.long (-116)], vm := .none },
  { cls := 8, slots := #[.long (-115)], vm := .none },
  { cls := 8, slots := #[.long (-114)], vm := .none },
  { cls := 8, slots := #[.long (-113)], vm := .none },
  { cls := 8, slots := #[.long (-112)], vm := .none },
  { cls := 8, slots := #[.long (-111)], vm := .none },
  { cls := 8, slots := #[.long (-110)], vm := .none },
  { cls := 8, slots := #[.long (-109)], vm := .none },
  { cls := 8, slots := #[.long (-108)], vm := .none },
  { cls := 8, slots := #[.long (-107)], vm := .none },
  { cls := 8, slots := #[.long (-106)], vm := .none },
  { cls := 8, slots := #[.long (-105)], vm := .none },
  { cls := 8, slots := #[.long (-104)], vm := .none },
  { cls := 8, slots := #[.long (-103)], vm := .none },
  { cls := 8, slots := #[.long (-102)], vm := .none },
  { cls := 8, slots := #[.long (-101)], vm := .none },
  { cls := 8, slots := #[.long (-100)], vm := .none },
  { cls := 8, slots := #[.long (-99)], vm := .none },
  { cls := 8, slots := #[.long (-98)], vm := .none },
  { cls := 8, slots := #[.long (-97)], vm := .none },
  { cls := 8, slots := #[.long (-96)], vm := .none },
  { cls := 8, slots := #[.long (-95)], vm := .none },
  { cls := 8, slots := #[.long (-94)], vm := .none },
  { cls := 8, slots := #[.long (-93)], vm := .none },
  { cls := 8, slots := #[.long (-92)], vm := .none },
  { cls := 8, slots := #[.long (-91)], vm := .none },
  { cls := 8, slots := #[.long (-90)], vm := .none },
  { cls := 8, slots := #[.long (-89)], vm := .none },
  { cls := 8, slots := #[.long (-88)], vm := .none },
  { cls := 8, slots := #[.long (-87)], vm := .none },
  { cls := 8, slots := #[.long (-86)], vm := .none },
  { cls := 8, slots := #[.long (-85)], vm := .none },
  { cls := 8, slots := #[.long (-84)], vm := .none },
  { cls := 8, slots := #[.long (-83)], vm := .none },
  { cls := 8, slots := #[.long (-82)], vm := .none },
  { cls := 8, slots := #[.long (-81)], vm := .none },
  { cls := 8, slots := #[.long (-80)], vm := .none },
  { cls := 8, slots := #[.long (-79)], vm := .none },
  { cls := 8, slots := #[.long (-78)], vm := .none },
  { cls := 8, slots := #[.long (-77)], vm := .none },
  { cls := 8, slots := #[.long (-76)], vm := .none },
  { cls := 8, slots := #[.long (-75)], vm := .none },
  { cls := 8, slots := #[.long (-74)], vm := .none },
  { cls := 8, slots := #[.long (-73)], vm := .none },
  { cls := 8, slots := #[.long (-72)], vm := .none },
  { cls := 8, slots := #[.long (-71)], vm := .none },
  { cls := 8, slots := #[.long (-70)], vm := .none },
  { cls := 8, slots := #[.long (-69)], vm := .none },
  { cls := 8, slots := #[.long (-68)], vm := .none },
  { cls := 8, slots := #[.long (-67)], vm := .none },
  { cls := 8, slots := #[.long (-66)], vm := .none },
  { cls := 8, slots := #[.long (-65)], vm := .none },
  { cls := 8, slots := #[.long (-64)], vm := .none },
  { cls := 8, slots := #[.long (-63)], vm := .none },
  { cls := 8, slots := #[.long (-62)], vm := .none },
  { cls := 8, slots := #[.long (-61)], vm := .none },
  { cls := 8, slots := #[.long (-60)], vm := .none },
  { cls := 8, slots := #[.long (-59)], vm := .none },
  { cls := 8, slots := #[.long (-58)], vm := .none },
  { cls := 8, slots := #[.long (-57)], vm := .none },
  { cls := 8, slots := #[.long (-56)], vm := .none },
  { cls := 8, slots := #[.long (-55)], vm := .none },
  { cls := 8, slots := #[.long (-54)], vm := .none },
  { cls := 8, slots := #[.long (-53)], vm := .none },
  { cls := 8, slots := #[.long (-52)], vm := .none },
  { cls := 8, slots := #[.long (-51)], vm := .none },
  { cls := 8, slots := #[.long (-50)], vm := .none },
  { cls := 8, slots := #[.long (-49)], vm := .none },
  { cls := 8, slots := #[.long (-48)], vm := .none },
  { cls := 8, slots := #[.long (-47)], vm := .none },
  { cls := 8, slots := #[.long (-46)], vm := .none },
  { cls := 8, slots := #[.long (-45)], vm := .none },
  { cls := 8, slots := #[.long (-44)], vm := .none },
  { cls := 8, slots := #[.long (-43)], vm := .none },
  { cls := 8, slots := #[.long (-42)], vm := .none },
  { cls := 8, slots := #[.long (-41)], vm := .none },
  { cls := 8, slots := #[.long (-40)], vm := .none },
  { cls := 8, slots := #[.long (-39)], vm := .none },
  { cls := 8, slots := #[.long (-38)], vm := .none },
  { cls := 8, slots := #[.long (-37)], vm := .none },
  { cls := 8, slots := #[.long (-36)], vm := .none },
  { cls := 8, slots := #[.long (-35)], vm := .none },
  { cls := 8, slots := #[.long (-34)], vm := .none },
  { cls := 8, slots := #[.long (-33)], vm := .none },
  { cls := 8, slots := #[.long (-32)], vm := .none },
  { cls := 8, slots := #[.long (-31)], vm := .none },
  { cls := 8, slots := #[.long (-30)], vm := .none },
  { cls := 8, slots := #[.long (-29)], vm := .none },
  { cls := 8, slots := #[.long (-28)], vm := .none },
  { cls := 8, slots := #[.long (-27)], vm := .none },
  { cls := 8, slots := #[.long (-26)], vm := .none },
  { cls := 8, slots := #[.long (-25)], vm := .none },
  { cls := 8, slots := #[.long (-24)], vm := .none },
  { cls := 8, slots := #[.long (-23)], vm := .none },
  { cls := 8, slots := #[.long (-22)], vm := .none },
  { cls := 8, slots := #[.long (-21)], vm := .none },
  { cls := 8, slots := #[.long (-20)], vm := .none },
  { cls := 8, slots := #[.long (-19)], vm := .none },
  { cls := 8, slots := #[.long (-18)], vm := .none },
  { cls := 8, slots := #[.long (-17)], vm := .none },
  { cls := 8, slots := #[.long (-16)], vm := .none },
  { cls := 8, slots := #[.long (-15)], vm := .none },
  { cls := 8, slots := #[.long (-14)], vm := .none },
  { cls := 8, slots := #[.long (-13)], vm := .none },
  { cls := 8, slots := #[.long (-12)], vm := .none },
  { cls := 8, slots := #[.long (-11)], vm := .none },
  { cls := 8, slots := #[.long (-10)], vm := .none },
  { cls := 8, slots := #[.long (-9)], vm := .none },
  { cls := 8, slots := #[.long (-8)], vm := .none },
  { cls := 8, slots := #[.long (-7)], vm := .none },
  { cls := 8, slots := #[.long (-6)], vm := .none },
  { cls := 8, slots := #[.long (-5)], vm := .none },
  { cls := 8, slots := #[.long (-4)], vm := .none },
  { cls := 8, slots := #[.long (-3)], vm := .none },
  { cls := 8, slots := #[.long (-2)], vm := .none },
  { cls := 8, slots := #[.long (-1)], vm := .none },
  { cls := 8, slots := #[.long (0)], vm := .none },
  { cls := 8, slots := #[.long (1)], vm := .none },
  { cls := 8, slots := #[.long (2)], vm := .none },
  { cls := 8, slots := #[.long (3)], vm := .none },
  { cls := 8, slots := #[.long (4)], vm := .none },
  { cls := 8, slots := #[.long (5)], vm := .none },
  { cls := 8, slots := #[.long (6)], vm := .none },
  { cls := 8, slots := #[.long (7)], vm := .none },
  { cls := 8, slots := #[.long (8)], vm := .none },
  { cls := 8, slots := #[.long (9)], vm := .none },
  { cls := 8, slots := #[.long (10)], vm := .none },
  { cls := 8, slots := #[.long (11)], vm := .none },
  { cls := 8, slots := #[.long (12)], vm := .none },
  { cls := 8, slots := #[.long (13)], vm := .none },
  { cls := 8, slots := #[.long (14)], vm := .none },
  { cls := 8, slots := #[.long (15)], vm := .none },
  { cls := 8, slots := #[.long (16)], vm := .none },
  { cls := 8, slots := #[.long (17)], vm := .none },
  { cls := 8, slots := #[.long (18)], vm := .none },
  { cls := 8, slots := #[.long (19)], vm := .none },
  { cls := 8, slots := #[.long (20)], vm := .none },
  { cls := 8, slots := #[.long (21)], vm := .none },
  { cls := 8, slots := #[.long (22)], vm := .none },
  { cls := 8, slots := #[.long (23)], vm := .none },
  { cls := 8, slots := #[.long (24)], vm := .none },
  { cls := 8, slots := #[.long (25)], vm := .none },
  { cls := 8, slots := #[.long (26)], vm := .none },
  { cls := 8, slots := #[.long (27)], vm := .none },
  { cls := 8, slots := #[.long (28)], vm := .none },
  { cls := 8, slots := #[.long (29)], vm := .none },
  { cls := 8, slots := #[.long (30)], vm := .none },
  { cls := 8, slots := #[.long (31)], vm := .none },
  { cls := 8, slots := #[.long (32)], vm := .none },
  { cls := 8, slots := #[.long (33)], vm := .none },
  { cls := 8, slots := #[.long (34)], vm := .none },
  { cls := 8, slots := #[.long (35)], vm := .none },
  { cls := 8, slots := #[.long (36)], vm := .none },
  { cls := 8, slots := #[.long (37)], vm := .none },
  { cls := 8, slots := #[.long (38)], vm := .none },
  { cls := 8, slots := #[.long (39)], vm := .none },
  { cls := 8, slots := #[.long (40)], vm := .none },
  { cls := 8, slots := #[.long (41)], vm := .none },
  { cls := 8, slots := #[.long (42)], vm := .none },
  { cls := 8, slots := #[.long (43)], vm := .none },
  { cls := 8, slots := #[.long (44)], vm := .none },
  { cls := 8, slots := #[.long (45)], vm := .none },
  { cls := 8, slots := #[.long (46)], vm := .none },
  { cls := 8, slots := #[.long (47)], vm := .none },
  { cls := 8, slots := #[.long (48)], vm := .none },
  { cls := 8, slots := #[.long (49)], vm := .none },
  { cls := 8, slots := #[.long (50)], vm := .none },
  { cls := 8, slots := #[.long (51)], vm := .none },
  { cls := 8, slots := #[.long (52)], vm := .none },
  { cls := 8, slots := #[.long (53)], vm := .none },
  { cls := 8, slots := #[.long (54)], vm := .none },
  { cls := 8, slots := #[.long (55)], vm := .none },
  { cls := 8, slots := #[.long (56)], vm := .none },
  { cls := 8, slots := #[.long (57)], vm := .none },
  { cls := 8, slots := #[.long (58)], vm := .none },
  { cls := 8, slots := #[.long (59)], vm := .none },
  { cls := 8, slots := #[.long (60)], vm := .none },
  { cls := 8, slots := #[.long (61)], vm := .none },
  { cls := 8, slots := #[.long (62)], vm := .none },
  { cls := 8, slots := #[.long (63)], vm := .none },
  { cls := 8, slots := #[.long (64)], vm := .none },
  { cls := 8, slots := #[.long (65)], vm := .none },
  { cls := 8, slots := #[.long (66)], vm := .none },
  { cls := 8, slots := #[.long (67)], vm := .none },
  { cls := 8, slots := #[.long (68)], vm := .none },
  { cls := 8, slots := #[.long (69)], vm := .none },
  { cls := 8, slots := #[.long (70)], vm := .none },
  { cls := 8, slots := #[.long (71)], vm := .none },
  { cls := 8, slots := #[.long (72)], vm := .none },
  { cls := 8, slots := #[.long (73)], vm := .none },
  { cls := 8, slots := #[.long (74)], vm := .none },
  { cls := 8, slots := #[.long (75)], vm := .none },
  { cls := 8, slots := #[.long (76)], vm := .none },
  { cls := 8, slots := #[.long (77)], vm := .none },
  { cls := 8, slots := #[.long (78)], vm := .none },
  { cls := 8, slots := #[.long (79)], vm := .none },
  { cls := 8, slots := #[.long (80)], vm := .none },
  { cls := 8, slots := #[.long (81)], vm := .none },
  { cls := 8, slots := #[.long (82)], vm := .none },
  { cls := 8, slots := #[.long (83)], vm := .none },
  { cls := 8, slots := #[.long (84)], vm := .none },
  { cls := 8, slots := #[.long (85)], vm := .none },
  { cls := 8, slots := #[.long (86)], vm := .none },
  { cls := 8, slots := #[.long (87)], vm := .none },
  { cls := 8, slots := #[.long (88)], vm := .none },
  { cls := 8, slots := #[.long (89)], vm := .none },
  { cls := 8, slots := #[.long (90)], vm := .none },
  { cls := 8, slots := #[.long (91)], vm := .none },
  { cls := 8, slots := #[.long (92)], vm := .none },
  { cls := 8, slots := #[.long (93)], vm := .none },
  { cls := 8, slots := #[.long (94)], vm := .none },
  { cls := 8, slots := #[.long (95)], vm := .none },
  { cls := 8, slots := #[.long (96)], vm := .none },
  { cls := 8, slots := #[.long (97)], vm := .none },
  { cls := 8, slots := #[.long (98)], vm := .none },
  { cls := 8, slots := #[.long (99)], vm := .none },
  { cls := 8, slots := #[.long (100)], vm := .none },
  { cls := 8, slots := #[.long (101)], vm := .none },
  { cls := 8, slots := #[.long (102)], vm := .none },
  { cls := 8, slots := #[.long (103)], vm := .none },
  { cls := 8, slots := #[.long (104)], vm := .none },
  { cls := 8, slots := #[.long (105)], vm := .none },
  { cls := 8, slots := #[.long (106)], vm := .none },
  { cls := 8, slots := #[.long (107)], vm := .none },
  { cls := 8, slots := #[.long (108)], vm := .none },
  { cls := 8, slots := #[.long (109)], vm := .none },
  { cls := 8, slots := #[.long (110)], vm := .none },
  { cls := 8, slots := #[.long (111)], vm := .none },
  { cls := 8, slots := #[.long (112)], vm := .none },
  { cls := 8, slots := #[.long (113)], vm := .none },
  { cls := 8, slots := #[.long (114)], vm := .none },
  { cls := 8, slots := #[.long (115)], vm := .none },
  { cls := 8, slots := #[.long (116)], vm := .none },
  { cls := 8, slots := #[.long (117)], vm := .none },
  { cls := 8, slots := #[.long (118)], vm := .none },
  { cls := 8, slots := #[.long (119)], vm := .none },
  { cls := 8, slots := #[.long (120)], vm := .none },
  { cls := 8, slots := #[.long (121)], vm := .none },
  { cls := 8, slots := #[.long (122)], vm := .none },
  { cls := 8, slots := #[.long (123)], vm := .none },
  { cls := 8, slots := #[.long (124)], vm := .none },
  { cls := 8, slots := #[.long (125)], vm := .none },
  { cls := 8, slots := #[.long (126)], vm := .none },
  { cls := 8, slots := #[.long (127)], vm := .none }]
def classes : Array Class := #[k0, k1, k2, k3, k4, k5, k6, k7, k8, k9, k10, k11, k12, k13, k14, k15]
def interned : List (Array UInt16 × Addr) := []
def slotsUsed : Nat := 515
def theMethod : MethodId := ⟨1, 1⟩
def args0 : Array Value := #[.long 5, .long 5, .long 5, .long 5, .int 5]
def aboutOver (below : List Frame) : State where
  vm := { classes := classes, interned := interned.toArray }
  heap := heap
  slotsUsed := slotsUsed
  threads := #[{ frames := .invoking theMethod args0 :: below }]
def below0 : List Frame := [.native { method := ⟨0, 0⟩, args := #[] }]
def about1 : State := aboutOver below0
def p0 : Program := .bare "" "" ""
def e0 : Env := launch0.env 0 0 0
theorem w_frames : about1.frames = Frame.invoking theMethod args0 :: below0 := rfl
set_option maxRecDepth 65536 in
theorem w_args : argsFit about1.vm theMethod args0 = true := by decide +kernel
set_option maxRecDepth 65536 in
theorem w_heap : heapFits about1 = true := by decide +kernel
set_option maxRecDepth 65536 in
theorem w_runnable : about1.curStatus? = some .runnable := by decide +kernel
set_option maxRecDepth 65536 in
theorem w_alone : about1.alone = true := by decide +kernel
set_option maxRecDepth 65536 in
theorem w_named : about1.methodNamed? x = some theMethod := by decide +kernel
set_option maxRecDepth 65536 in
theorem w_hears : about1.hears theMethod below0 = true := by decide +kernel
set_option maxRecDepth 65536 in
theorem w_ripe : about1.ripe theMethod args0 below0 = true := by decide +kernel
theorem w_running : about1.status = .running := rfl
set_option maxRecDepth 65536 in
theorem w_room : about1.hasRoom e0.platform room_1 = true :=
  launch0.hasRoom_least _ room_1 (by decide +kernel) (by decide +kernel) (by decide +kernel) (by decide +kernel) (by decide +kernel) (by decide +kernel)
theorem allAtoms_all (ts : List Jvm.Cond) (a : Array Jvm.Value) (st : Jvm.State) : (allAtoms ts).before a st = ts.all (fun c => c.before a st) := by
  induction ts with
  | nil => rfl
  | cons c t ih =>
    show (Jvm.Cond.and c (allAtoms t)).before a st = _
    rw [Jvm.Cond.before_and, ih, List.all_cons]
def words1 : List Jvm.Cond := Jvm.Cond.code x code maxLocals ret :: tables_1
/-- a 'code' word, met by the world's own term for the bytes: nothing is compared byte by byte -/
theorem code_word {y : MethodName} {bytes : ByteArray} {mx : Nat} {rt : Option FieldType} {a : Array Value} {s : State} {m : MethodId} {meth : Method} {c : Code} (h1 : s.methodNamed? y = some m) (h2 : s.vm.method? m = some meth) (h3 : meth.code = some c) (h4 : c.code = bytes)
    (h5 : (c.maxLocals == mx && c.exceptionTable.isEmpty && decide (c.maxStack ≤ mostOperands) && decide (meth.sig.returnType = rt) && !meth.locks && decide (parseMethodDescriptor y.desc = some meth.sig)) = true) : (Jvm.Cond.code y bytes mx rt).before a s = true := by
  simp only [Bool.and_eq_true, beq_iff_eq, Bool.not_eq_true', decide_eq_true_eq] at h5
  obtain ⟨⟨⟨⟨⟨g1, g2⟩, g3⟩, g4⟩, g5⟩, g6⟩ := h5
  simp [Cond.before, Cond.holds, Cond.value, h1, h2, h3, h4, g1, g2, g3, g4, g5, g6]
def isCode : Jvm.Cond → Bool
  | .code _ _ _ _ => true
  | _ => false
theorem all_split {L : List Jvm.Cond} {P : Jvm.Cond → Bool} (h1 : L.all (fun c => isCode c || P c) = true) (h2 : ∀ c ∈ L.filter isCode, P c = true) : L.all P = true := by
  refine List.all_eq_true.mpr fun c hc => ?_
  have h := List.all_eq_true.mp h1 c hc
  rcases Bool.eq_false_or_eq_true (isCode c) with hi | hi
  · exact h2 c (List.mem_filter.mpr ⟨hc, hi⟩)
  · simpa [hi] using h
set_option maxRecDepth 65536 in
theorem w_c0 : (Jvm.Cond.code x code maxLocals ret).before args0 about1 = true := code_word (m := ⟨1, 1⟩) (meth := k1m1) (c := k1c1) (by decide +kernel) rfl rfl rfl (by decide +kernel)
set_option maxRecDepth 65536 in
theorem w_c1 : (Jvm.Cond.code ({ cls := "com/example/offset/offset/server/Delay", name := "<init>", desc := "(JJ)V" } : Jvm.MethodName) prog_31_method_1_code (5 : Nat) (Option.none : Option Jvm.ClassFile.FieldType)).before args0 about1 = true := code_word (m := ⟨3, 0⟩) (meth := k3m0) (c := k3c0) (by decide +kernel) rfl rfl rfl (by decide +kernel)
set_option maxRecDepth 65536 in
theorem w_c2 : (Jvm.Cond.code ({ cls := "java/lang/Object", name := "<init>", desc := "()V" } : Jvm.MethodName) object_method_1_code (1 : Nat) (Option.none : Option Jvm.ClassFile.FieldType)).before args0 about1 = true := code_word (m := ⟨0, 0⟩) (meth := k0m0) (c := k0c0) (by decide +kernel) rfl rfl rfl (by decide +kernel)
set_option maxRecDepth 65536 in
theorem w_c3 : (Jvm.Cond.code ({ cls := "java/lang/Long", name := "valueOf", desc := "(J)Ljava/lang/Long;" } : Jvm.MethodName) jdk_35_method_24_code (3 : Nat) (Option.some (Jvm.ClassFile.FieldType.object "java/lang/Long"))).before args0 about1 = true := code_word (m := ⟨8, 0⟩) (meth := k8m0) (c := k8c0) (by decide +kernel) rfl rfl rfl (by decide +kernel)
set_option maxRecDepth 65536 in
theorem w_c4 : (Jvm.Cond.code ({ cls := "com/example/offset/offset/server/Delay", name := "equals", desc := "(Ljava/lang/Object;)Z" } : Jvm.MethodName) prog_31_method_6_code (3 : Nat) (Option.some Jvm.ClassFile.FieldType.boolean)).before args0 about1 = true := code_word (m := ⟨3, 1⟩) (meth := k3m1) (c := k3c1) (by decide +kernel) rfl rfl rfl (by decide +kernel)
set_option maxRecDepth 65536 in
theorem w_c5 : (Jvm.Cond.code ({ cls := "java/lang/Long", name := "<init>", desc := "(J)V" } : Jvm.MethodName) jdk_35_method_26_code (3 : Nat) (Option.none : Option Jvm.ClassFile.FieldType)).before args0 about1 = true := code_word (m := ⟨8, 1⟩) (meth := k8m1) (c := k8c1) (by decide +kernel) rfl rfl rfl (by decide +kernel)
set_option maxRecDepth 65536 in
theorem w_c6 : (Jvm.Cond.code ({ cls := "java/lang/Number", name := "<init>", desc := "()V" } : Jvm.MethodName) jdk_18_method_1_code (1 : Nat) (Option.none : Option Jvm.ClassFile.FieldType)).before args0 about1 = true := code_word (m := ⟨5, 0⟩) (meth := k5m0) (c := k5c0) (by decide +kernel) rfl rfl rfl (by decide +kernel)
def codes1 : List Jvm.Cond := [Jvm.Cond.code x code maxLocals ret, Jvm.Cond.code ({ cls := "com/example/offset/offset/server/Delay", name := "<init>", desc := "(JJ)V" } : Jvm.MethodName) prog_31_method_1_code (5 : Nat) (Option.none : Option Jvm.ClassFile.FieldType), Jvm.Cond.code ({ cls := "java/lang/Object", name := "<init>", desc := "()V" } : Jvm.MethodName) object_method_1_code (1 : Nat) (Option.none : Option Jvm.ClassFile.FieldType), Jvm.Cond.code ({ cls := "java/lang/Long", name := "valueOf", desc := "(J)Ljava/lang/Long;" } : Jvm.MethodName) jdk_35_method_24_code (3 : Nat) (Option.some (Jvm.ClassFile.FieldType.object "java/lang/Long")), Jvm.Cond.code ({ cls := "com/example/offset/offset/server/Delay", name := "equals", desc := "(Ljava/lang/Object;)Z" } : Jvm.MethodName) prog_31_method_6_code (3 : Nat) (Option.some Jvm.ClassFile.FieldType.boolean), Jvm.Cond.code ({ cls := "java/lang/Long", name := "<init>", desc := "(J)V" } : Jvm.MethodName) jdk_35_method_26_code (3 : Nat) (Option.none : Option Jvm.ClassFile.FieldType), Jvm.Cond.code ({ cls := "java/lang/Number", name := "<init>", desc := "()V" } : Jvm.MethodName) jdk_18_method_1_code (1 : Nat) (Option.none : Option Jvm.ClassFile.FieldType)]
set_option maxRecDepth 65536 in
theorem codes_eq : words1.filter isCode = codes1 := rfl
theorem w_codes : ∀ c ∈ words1.filter isCode, c.before args0 about1 = true := by
  rw [codes_eq]
  intro c hc
  simp only [codes1, List.mem_cons, List.not_mem_nil, or_false] at hc
  rcases hc with rfl | rfl | rfl | rfl | rfl | rfl | rfl
  · exact w_c0
  · exact w_c1
  · exact w_c2
  · exact w_c3
  · exact w_c4
  · exact w_c5
  · exact w_c6
set_option maxRecDepth 65536 in
theorem w_t1 : (words1.take 24).all (fun c => isCode c || c.before args0 about1) = true := by decide +kernel
set_option maxRecDepth 65536 in
theorem w_t2 : (words1.drop 24).all (fun c => isCode c || c.before args0 about1) = true := by decide +kernel
theorem w_tables : (allAtoms (Jvm.Cond.code x code maxLocals ret :: tables_1)).before args0 about1 = true := by
  rw [allAtoms_all]
  show words1.all (fun c => c.before args0 about1) = true
  refine all_split ?_ w_codes
  rw [← List.take_append_drop 24 words1, List.all_append, w_t1, w_t2]
  rfl
set_option maxRecDepth 65536 in
theorem w_rest : rest_1_c.before args0 about1 = true := by decide +kernel
set_option maxRecDepth 65536 in
theorem w_case : (Jvm.Cond.and given_1 narrow_1).before args0 about1 = true := by decide +kernel
theorem w_applies : (headSpec (Jvm.Cond.code x code maxLocals ret :: tables_1) room_1).applies x e0.platform about1 = true :=
  (Spec.applies_iff w_frames).mpr ⟨w_running, w_runnable, w_alone, w_named, w_hears, w_ripe, w_room, w_tables⟩
theorem atStart : AtStart classFile x code maxLocals ret World_1 tables_1 room_1 Calls_1 rest_1 Pre_1 launch0 p0 e0 about1 theMethod args0 below0 :=
  ⟨lists_1, trivial, launch0.admits_env _ _ _, launch0.least_env, fairChoices_fair.cas, fairChoices_fair.clock, w_frames, w_args, w_heap, w_applies, trivial, w_rest, w_case⟩
end start1
theorem witness_1 : WitnessClaimed_1 := ⟨start1.p0, start1.e0, start1.about1, start1.theMethod, start1.args0, start1.below0, start1.atStart⟩
end Jvm.Pilot.@@N@@
