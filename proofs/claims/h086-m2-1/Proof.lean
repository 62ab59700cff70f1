import JvmDerived
import JvmDerived.Pilot.@@N@@Statement
import JvmDerived.Pilot.@@N@@Code
set_option linter.unusedVariables false
set_option linter.unusedSimpArgs false
namespace Jvm.RoadKit
open Sem ClassFile Op Lib Jvm.Stand Jvm.Free Jvm.LawKit
section New
variable {p : Program} {l : Launch} {e : Env} {R : Room} {s : State} {m : MethodId} {args : Array Value} {below : List Frame} {meth : Method} {c : Code} {T : State} {locs : List Loc} {cells slots : Nat}
theorem retI (X : Stand p l e R s m args below meth c T locs cells slots) (hx : p.tables.exec = Jvm.exec) {pc : Nat} {Ls : Array Slot} {z : Int32} {rest : List Value} (hret : meth.sig.returnType = some .int) (hd : decode c.code pc = .ok (.ireturn, 1)) {fs : List Frame}
    (hl : ∀ (f : JFrame) (acts : List Action), f.method = m → f.locked = none → f.entered = [] → (doReturn e (T.setTop f) acts (some (.int z))).1 = T.setFrames fs) : Steps p.tables e below (T.setTop (mkF m pc Ls (.int z :: rest))) (T.setFrames fs) := by
  have hm' : T.vm.method? m = some meth := X.method'
  have hn : narrow .int (.int z) = .int z := rfl
  show Steps p.tables e below (T.setTop { method := m, pc := pc, locals := Ls, stack := _ :: rest, locked := none }) _
  jvm_step X.here [X.here.top, hx, hd, hm', hret, hn]
  first | (intro acts; rw [hl _ acts rfl rfl rfl]) | rw [hl _ _ rfl rfl rfl]
  exact Steps.refl _
end New
end Jvm.RoadKit
namespace Jvm.Pilot.@@N@@
open Jvm Jvm.ClassFile Sem Op Lib Jvm.Free Jvm.Stand Jvm.LawKit Jvm.RoadKit Bundle Jvm.Pilot.@@N@@.Jvm.D
/-! OWN KIT: a walk as one forward chain. OwF: from frame f at T the run ends, and D says how. OwC: the setting of a body. OwCon: a body's contract. -/
section OwnKit
variable {p : Program} {l : Launch} {e : Env} {R : Room} {s : State} {m : MethodId} {args : Array Value} {below : List Frame} {meth : Method} {c : Code} {T : State} {locs : List Loc} {cells slots : Nat} {Z : State} {a0 : Array Value} {h : Heap}
variable {own nm : String} {bytes : ByteArray} {maxL : Nat} {ret : Option FieldType} {D : State → Outcome → Prop} {pc pc' : Nat} {Ls : Array Slot} {r : List Value}
def OwF (p : Program) (e : Env) (below : List Frame) (D : State → Outcome → Prop) (T : State) (f : JFrame) : Prop := ∃ t o, Steps p.tables e below (T.setTop f) t ∧ D t o
def OwC (p : Program) (Z s : State) (m : MethodId) (meth : Method) (c : Code) (own nm : String) (bytes : ByteArray) (maxL : Nat) (ret : Option FieldType) : Prop :=
  p.tables.exec = Jvm.exec ∧ c.code = bytes ∧ c.maxLocals = maxL ∧ s.vm.findClass own = some m.cls ∧ meth.name = nm ∧ meth.sig.returnType = ret ∧ meth.locks = false ∧ Z.Warmed39 s.vm
def OwD (s : State) (below : List Frame) (Q : Option Value → Heap → List Loc → Prop) (kc ks : Nat) (t : State) (o : Outcome) : Prop :=
  t.status = .running ∧ Ended t below o ∧ ∃ v L, o = .returned v ∧ Q v t.heap L ∧ FrameEnd s o t L kc ks
def OwCon (l : Launch) (y : MethodName) (bytes : ByteArray) (maxL : Nat) (ret : Option FieldType) (rm : Room) (Z : State) (as' : Array Value) (h : Heap) (Q : Option Value → Heap → List Loc → Prop) : Prop :=
  ∀ ws, MetFree l y (head1 (Jvm.Cond.code y bytes maxL ret :: ws) rm) (fun a U => a = as' ∧ Z.Warmed39 U.vm ∧ U.heap = h) (fun _ _ _ _ _ => True) (fun _ U o U' => ∃ v L, o = .returned v ∧ Q v U'.heap L ∧ FrameEnd U o U' L rm.cells rm.slots)
theorem OwF.st {T' : State} {f f' : JFrame} (h : ∀ t, Steps p.tables e below (T'.setTop f') t → Steps p.tables e below (T.setTop f) t) (k : OwF p e below D T' f') : OwF p e below D T f := by
  obtain ⟨t, o, q, d⟩ := k; exact ⟨t, o, h t q, d⟩
theorem OwCon.of {y : MethodName} {rm : Room} {as' : Array Value} {Q : Option Value → Heap → List Loc → Prop} (hpl : plainFor y = true) {Ls : Array Slot} (hent : ∀ m, entryFrame m as' maxL = mkF m 0 Ls [])
    (body : ∀ (p : Program) (e : Env) (s : State) (m : MethodId) (below : List Frame) (meth : Method) (c : Code) (s₁ : State), OwC p Z s m meth c y.cls y.name bytes maxL ret → Stand p l e rm s m as' below meth c s₁ [] 0 0 → s₁.heap = h → OwF p e below (OwD s below Q rm.cells rm.slots) s₁ (mkF m 0 Ls [])) :
    OwCon l y bytes maxL ret rm Z as' h Q := by
  intro ws
  refine MetFree.of_bodySF hpl hisR ?_
  intro p e s m args below meth c s₁ Bd hml0 hP hK
  obtain ⟨rfl, hZ, hh⟩ := hP
  have X0 : Stand p l e rm s m args below meth c s₁ [] 0 0 := Stand.of_body Bd
  obtain ⟨t, o, h1, h2, h3, h4⟩ := body p e s m below meth c s₁ ⟨Bd.exec, Bd.bytes, hml0, findClass_of_methodNamed Bd.named, (name_of_methodNamed Bd.named Bd.method).1, Bd.returns, BodyLoose.notSynchronized Bd, hZ⟩ X0 (by rw [← hh, Bd.state]; rfl)
  exact ⟨t, o, castTop (hent m) h1, h2, h3, h4⟩
/-- a contract may say less -/
theorem OwCon.mono {y : MethodName} {rm : Room} {as' : Array Value} {Q Q' : Option Value → Heap → List Loc → Prop} (M : OwCon l y bytes maxL ret rm Z as' h Q) (hq : ∀ v h' L, Q v h' L → Q' v h' L) : OwCon l y bytes maxL ret rm Z as' h Q' := by
  intro ws p e ha hc hk s m args below hf happ hP hK
  obtain ⟨n, o, h1, h2, h3, v, L, h4, h5, h6⟩ := M ws p e ha hc hk s m args below hf happ hP hK
  exact ⟨n, o, h1, h2, h3, v, L, h4, hq _ _ _ h5, h6⟩
/-- two roads that meet -/
theorem ow_join {f f' : JFrame} (X : Stand p l e R s m args below meth c T locs cells slots) (eT : T.heap = h) (A : ∀ D : State → Outcome → Prop, (∀ T', Stand p l e R s m args below meth c T' locs cells slots → T'.heap = h → OwF p e below D T' f') → OwF p e below D T f)
    (k : ∀ T', Stand p l e R s m args below meth c T' locs cells slots → T'.heap = h → OwF p e below D T' f') : OwF p e below D T f := A D k
/-- a long or nothing, in two places -/
def OwTwo (x y : Slot) : Prop := (x = .unset ∧ y = .unset) ∨ ∃ v : Int64, x = .val (.long v) ∧ y = .second
/-- two roads that meet, with locals that are read no more -/
theorem ow_joinL {f : JFrame} {r' : List Value} {P : Array Slot → Prop} (X : Stand p l e R s m args below meth c T locs cells slots) (eT : T.heap = h) (A : ∀ D : State → Outcome → Prop, (∀ Ls' T', P Ls' → Stand p l e R s m args below meth c T' locs cells slots → T'.heap = h → OwF p e below D T' (mkF m pc' Ls' r')) → OwF p e below D T f)
    (k : ∀ Ls' T', P Ls' → Stand p l e R s m args below meth c T' locs cells slots → T'.heap = h → OwF p e below D T' (mkF m pc' Ls' r')) : OwF p e below D T f := A D k
/-! returns -/
theorem ow_retI {Q : Option Value → Heap → List Loc → Prop} {kc ks : Nat} {z : Int32} (C : OwC p Z s m meth c own nm bytes maxL (some .int)) (X : Stand p l e R s m args below meth c T locs cells slots) (hd : decode bytes pc = .ok (.ireturn, 1)) (hc : cells ≤ kc) (hs : slots ≤ ks)
    (hQ : Q (some (.int z)) T.heap locs) : OwF p e below (OwD s below Q kc ks) T (mkF m pc Ls (.int z :: r)) := by
  obtain ⟨hx, hby, -, -, -, hret, hlk, -⟩ := C
  obtain ⟨fs, hr, hrun, hended, hW, hsame⟩ := X.leave (v := some (.int z)) (fun h => by rw [hret] at h; cases h) hlk
  exact ⟨_, _, retI X hx hret (hb hby hd) hr, hrun, hended, _, _, rfl, hQ, ⟨_, rfl⟩, hW, hsame.mono hc hs⟩
theorem ow_retZ {Q : Option Value → Heap → List Loc → Prop} {kc ks : Nat} {z : Int32} (C : OwC p Z s m meth c own nm bytes maxL (some .boolean)) (X : Stand p l e R s m args below meth c T locs cells slots) (hd : decode bytes pc = .ok (.ireturn, 1)) (hc : cells ≤ kc) (hs : slots ≤ ks) (hz : z = 0 ∨ z = 1)
    (hQ : Q (some (.int z)) T.heap locs) : OwF p e below (OwD s below Q kc ks) T (mkF m pc Ls (.int z :: r)) := by
  obtain ⟨hx, hby, -, -, -, hret, hlk, -⟩ := C
  have hn : nar .boolean z = z := by rcases hz with rfl | rfl <;> decide
  obtain ⟨fs, hr, hrun, hended, hW, hsame⟩ := X.leave (v := some (.int z)) (fun h => by rw [hret] at h; cases h) hlk
  exact ⟨_, _, retN X hx hret (by simp) (hb hby hd) (by rw [hn]; exact hr), hrun, hended, _, _, rfl, hQ, ⟨_, rfl⟩, hW, hsame.mono hc hs⟩
theorem ow_retJ {Q : Option Value → Heap → List Loc → Prop} {kc ks : Nat} {z : Int64} (C : OwC p Z s m meth c own nm bytes maxL (some .long)) (X : Stand p l e R s m args below meth c T locs cells slots) (hd : decode bytes pc = .ok (.lreturn, 1)) (hc : cells ≤ kc) (hs : slots ≤ ks)
    (hQ : Q (some (.long z)) T.heap locs) : OwF p e below (OwD s below Q kc ks) T (mkF m pc Ls [.long z]) := by
  obtain ⟨hx, hby, -, -, -, hret, hlk, -⟩ := C
  obtain ⟨fs, hr, hrun, hended, hW, hsame⟩ := X.leave (v := some (.long z)) (fun h => by rw [hret] at h; cases h) hlk
  exact ⟨_, _, X.lreturnOut hx hret (hb hby hd) hr, hrun, hended, _, _, rfl, hQ, ⟨_, rfl⟩, hW, hsame.mono hc hs⟩
theorem ow_retV {Q : Option Value → Heap → List Loc → Prop} {kc ks : Nat} (C : OwC p Z s m meth c own nm bytes maxL none) (X : Stand p l e R s m args below meth c T locs cells slots) (hd : decode bytes pc = .ok (.return_, 1)) (hc : cells ≤ kc) (hs : slots ≤ ks)
    (hQ : Q none T.heap locs) : OwF p e below (OwD s below Q kc ks) T (mkF m pc Ls []) := by
  obtain ⟨hx, hby, -, -, -, hret, hlk, -⟩ := C
  obtain ⟨fs, hr, hrun, hended, hW, hsame⟩ := X.leave (v := none) (fun _ => rfl) hlk
  exact ⟨_, _, X.returnOut hx hret (hb hby hd) hr, hrun, hended, _, _, rfl, hQ, ⟨_, rfl⟩, hW, hsame.mono hc hs⟩
end OwnKit
section OwnSteps
variable {p : Program} {l : Launch} {e : Env} {R : Room} {s : State} {m : MethodId} {args : Array Value} {below : List Frame} {meth : Method} {c : Code} {T : State} {locs : List Loc} {cells slots : Nat} {Z : State} {a0 : Array Value} {h : Heap}
variable {own nm : String} {bytes : ByteArray} {maxL : Nat} {ret : Option FieldType} {D : State → Outcome → Prop} {pc pc' pcT : Nat} {Ls Ls' : Array Slot} {r : List Value}
theorem ow_iadd {x y : Int32} (C : OwC p Z s m meth c own nm bytes maxL ret) (X : Stand p l e R s m args below meth c T locs cells slots) (hd : decode bytes pc = .ok (.iadd, 1))  (hp : pc + 1 = pc') (k : OwF p e below D T (mkF m pc' Ls (.int (x + y) :: r))) : OwF p e below D T (mkF m pc Ls (.int y :: .int x :: r)) := by
  subst hp; exact OwF.st (fun _ q => XS.iadd X.here C.1 rfl (hb C.2.1 hd) rfl q) k
theorem ow_isub {x y : Int32} (C : OwC p Z s m meth c own nm bytes maxL ret) (X : Stand p l e R s m args below meth c T locs cells slots) (hd : decode bytes pc = .ok (.isub, 1))  (hp : pc + 1 = pc') (k : OwF p e below D T (mkF m pc' Ls (.int (x - y) :: r))) : OwF p e below D T (mkF m pc Ls (.int y :: .int x :: r)) := by
  subst hp; exact OwF.st (fun _ q => XS.isub X.here C.1 rfl (hb C.2.1 hd) rfl q) k
theorem ow_imul {x y : Int32} (C : OwC p Z s m meth c own nm bytes maxL ret) (X : Stand p l e R s m args below meth c T locs cells slots) (hd : decode bytes pc = .ok (.imul, 1))  (hp : pc + 1 = pc') (k : OwF p e below D T (mkF m pc' Ls (.int (x * y) :: r))) : OwF p e below D T (mkF m pc Ls (.int y :: .int x :: r)) := by
  subst hp; exact OwF.st (fun _ q => XS.imul X.here C.1 rfl (hb C.2.1 hd) rfl q) k
theorem ow_iand {x y : Int32} (C : OwC p Z s m meth c own nm bytes maxL ret) (X : Stand p l e R s m args below meth c T locs cells slots) (hd : decode bytes pc = .ok (.iand, 1))  (hp : pc + 1 = pc') (k : OwF p e below D T (mkF m pc' Ls (.int (x &&& y) :: r))) : OwF p e below D T (mkF m pc Ls (.int y :: .int x :: r)) := by
  subst hp; exact OwF.st (fun _ q => XS.iand X.here C.1 rfl (hb C.2.1 hd) rfl q) k
theorem ow_ior {x y : Int32} (C : OwC p Z s m meth c own nm bytes maxL ret) (X : Stand p l e R s m args below meth c T locs cells slots) (hd : decode bytes pc = .ok (.ior, 1))  (hp : pc + 1 = pc') (k : OwF p e below D T (mkF m pc' Ls (.int (x ||| y) :: r))) : OwF p e below D T (mkF m pc Ls (.int y :: .int x :: r)) := by
  subst hp; exact OwF.st (fun _ q => XT.ior X.here C.1 rfl (hb C.2.1 hd) rfl q) k
theorem ow_ixor {x y : Int32} (C : OwC p Z s m meth c own nm bytes maxL ret) (X : Stand p l e R s m args below meth c T locs cells slots) (hd : decode bytes pc = .ok (.ixor, 1))  (hp : pc + 1 = pc') (k : OwF p e below D T (mkF m pc' Ls (.int (x ^^^ y) :: r))) : OwF p e below D T (mkF m pc Ls (.int y :: .int x :: r)) := by
  subst hp; exact OwF.st (fun _ q => XT.ixor X.here C.1 rfl (hb C.2.1 hd) rfl q) k
theorem ow_ishl {x y : Int32} (C : OwC p Z s m meth c own nm bytes maxL ret) (X : Stand p l e R s m args below meth c T locs cells slots) (hd : decode bytes pc = .ok (.ishl, 1))  (hp : pc + 1 = pc') (k : OwF p e below D T (mkF m pc' Ls (.int (x <<< (y &&& 31)) :: r))) : OwF p e below D T (mkF m pc Ls (.int y :: .int x :: r)) := by
  subst hp; exact OwF.st (fun _ q => XT.ishl X.here C.1 rfl (hb C.2.1 hd) rfl q) k
theorem ow_ishr {x y : Int32} (C : OwC p Z s m meth c own nm bytes maxL ret) (X : Stand p l e R s m args below meth c T locs cells slots) (hd : decode bytes pc = .ok (.ishr, 1))  (hp : pc + 1 = pc') (k : OwF p e below D T (mkF m pc' Ls (.int (x >>> (y &&& 31)) :: r))) : OwF p e below D T (mkF m pc Ls (.int y :: .int x :: r)) := by
  subst hp; exact OwF.st (fun _ q => XT.ishr X.here C.1 rfl (hb C.2.1 hd) rfl q) k
theorem ow_iushr {x y : Int32} (C : OwC p Z s m meth c own nm bytes maxL ret) (X : Stand p l e R s m args below meth c T locs cells slots) (hd : decode bytes pc = .ok (.iushr, 1))  (hp : pc + 1 = pc') (k : OwF p e below D T (mkF m pc' Ls (.int (XT.ushr x y) :: r))) : OwF p e below D T (mkF m pc Ls (.int y :: .int x :: r)) := by
  subst hp; exact OwF.st (fun _ q => XT.iushr X.here C.1 rfl (hb C.2.1 hd) rfl q) k
theorem ow_idiv {x y : Int32} (C : OwC p Z s m meth c own nm bytes maxL ret) (X : Stand p l e R s m args below meth c T locs cells slots) (hd : decode bytes pc = .ok (.idiv, 1)) (hy : y ≠ 0) (hp : pc + 1 = pc') (k : OwF p e below D T (mkF m pc' Ls (.int (x / y) :: r))) : OwF p e below D T (mkF m pc Ls (.int y :: .int x :: r)) := by
  subst hp; exact OwF.st (fun _ q => XS.idiv X.here C.1 rfl (hb C.2.1 hd) rfl hy q) k
theorem ow_irem {x y : Int32} (C : OwC p Z s m meth c own nm bytes maxL ret) (X : Stand p l e R s m args below meth c T locs cells slots) (hd : decode bytes pc = .ok (.irem, 1)) (hy : y ≠ 0) (hp : pc + 1 = pc') (k : OwF p e below D T (mkF m pc' Ls (.int (x - (x / y) * y) :: r))) : OwF p e below D T (mkF m pc Ls (.int y :: .int x :: r)) := by
  subst hp; exact OwF.st (fun _ q => XS.irem X.here C.1 rfl (hb C.2.1 hd) rfl hy q) k
theorem ow_ladd {x y : Int64} (C : OwC p Z s m meth c own nm bytes maxL ret) (X : Stand p l e R s m args below meth c T locs cells slots) (hd : decode bytes pc = .ok (.ladd, 1))  (hp : pc + 1 = pc') (k : OwF p e below D T (mkF m pc' Ls (.long (x + y) :: r))) : OwF p e below D T (mkF m pc Ls (.long y :: .long x :: r)) := by
  subst hp; exact OwF.st (fun _ q => XT.ladd X.here C.1 rfl (hb C.2.1 hd) rfl q) k
theorem ow_lsub {x y : Int64} (C : OwC p Z s m meth c own nm bytes maxL ret) (X : Stand p l e R s m args below meth c T locs cells slots) (hd : decode bytes pc = .ok (.lsub, 1))  (hp : pc + 1 = pc') (k : OwF p e below D T (mkF m pc' Ls (.long (x - y) :: r))) : OwF p e below D T (mkF m pc Ls (.long y :: .long x :: r)) := by
  subst hp; exact OwF.st (fun _ q => XT.lsub X.here C.1 rfl (hb C.2.1 hd) rfl q) k
theorem ow_lmul {x y : Int64} (C : OwC p Z s m meth c own nm bytes maxL ret) (X : Stand p l e R s m args below meth c T locs cells slots) (hd : decode bytes pc = .ok (.lmul, 1))  (hp : pc + 1 = pc') (k : OwF p e below D T (mkF m pc' Ls (.long (x * y) :: r))) : OwF p e below D T (mkF m pc Ls (.long y :: .long x :: r)) := by
  subst hp; exact OwF.st (fun _ q => XT.lmul X.here C.1 rfl (hb C.2.1 hd) rfl q) k
theorem ow_land {x y : Int64} (C : OwC p Z s m meth c own nm bytes maxL ret) (X : Stand p l e R s m args below meth c T locs cells slots) (hd : decode bytes pc = .ok (.land, 1))  (hp : pc + 1 = pc') (k : OwF p e below D T (mkF m pc' Ls (.long (x &&& y) :: r))) : OwF p e below D T (mkF m pc Ls (.long y :: .long x :: r)) := by
  subst hp; exact OwF.st (fun _ q => XT.land X.here C.1 rfl (hb C.2.1 hd) rfl q) k
theorem ow_lor {x y : Int64} (C : OwC p Z s m meth c own nm bytes maxL ret) (X : Stand p l e R s m args below meth c T locs cells slots) (hd : decode bytes pc = .ok (.lor, 1))  (hp : pc + 1 = pc') (k : OwF p e below D T (mkF m pc' Ls (.long (x ||| y) :: r))) : OwF p e below D T (mkF m pc Ls (.long y :: .long x :: r)) := by
  subst hp; exact OwF.st (fun _ q => XT.lor X.here C.1 rfl (hb C.2.1 hd) rfl q) k
theorem ow_lxor {x y : Int64} (C : OwC p Z s m meth c own nm bytes maxL ret) (X : Stand p l e R s m args below meth c T locs cells slots) (hd : decode bytes pc = .ok (.lxor, 1))  (hp : pc + 1 = pc') (k : OwF p e below D T (mkF m pc' Ls (.long (x ^^^ y) :: r))) : OwF p e below D T (mkF m pc Ls (.long y :: .long x :: r)) := by
  subst hp; exact OwF.st (fun _ q => XT.lxor X.here C.1 rfl (hb C.2.1 hd) rfl q) k
theorem ow_ldiv {x y : Int64} (C : OwC p Z s m meth c own nm bytes maxL ret) (X : Stand p l e R s m args below meth c T locs cells slots) (hd : decode bytes pc = .ok (.ldiv, 1)) (hy : y ≠ 0) (hp : pc + 1 = pc') (k : OwF p e below D T (mkF m pc' Ls (.long (x / y) :: r))) : OwF p e below D T (mkF m pc Ls (.long y :: .long x :: r)) := by
  subst hp; exact OwF.st (fun _ q => XT.ldiv X.here C.1 rfl (hb C.2.1 hd) rfl hy q) k
theorem ow_lrem {x y : Int64} (C : OwC p Z s m meth c own nm bytes maxL ret) (X : Stand p l e R s m args below meth c T locs cells slots) (hd : decode bytes pc = .ok (.lrem, 1)) (hy : y ≠ 0) (hp : pc + 1 = pc') (k : OwF p e below D T (mkF m pc' Ls (.long (x - (x / y) * y) :: r))) : OwF p e below D T (mkF m pc Ls (.long y :: .long x :: r)) := by
  subst hp; exact OwF.st (fun _ q => XT.lrem X.here C.1 rfl (hb C.2.1 hd) rfl hy q) k
theorem ow_lshl {x : Int64} {y : Int32} (C : OwC p Z s m meth c own nm bytes maxL ret) (X : Stand p l e R s m args below meth c T locs cells slots) (hd : decode bytes pc = .ok (.lshl, 1))  (hp : pc + 1 = pc') (k : OwF p e below D T (mkF m pc' Ls (.long (x <<< (y.toInt64 &&& 63)) :: r))) : OwF p e below D T (mkF m pc Ls (.int y :: .long x :: r)) := by
  subst hp; exact OwF.st (fun _ q => XT.lshl X.here C.1 rfl (hb C.2.1 hd) rfl q) k
theorem ow_lshr {x : Int64} {y : Int32} (C : OwC p Z s m meth c own nm bytes maxL ret) (X : Stand p l e R s m args below meth c T locs cells slots) (hd : decode bytes pc = .ok (.lshr, 1))  (hp : pc + 1 = pc') (k : OwF p e below D T (mkF m pc' Ls (.long (x >>> (y.toInt64 &&& 63)) :: r))) : OwF p e below D T (mkF m pc Ls (.int y :: .long x :: r)) := by
  subst hp; exact OwF.st (fun _ q => XT.lshr X.here C.1 rfl (hb C.2.1 hd) rfl q) k
theorem ow_lushr {x : Int64} {y : Int32} (C : OwC p Z s m meth c own nm bytes maxL ret) (X : Stand p l e R s m args below meth c T locs cells slots) (hd : decode bytes pc = .ok (.lushr, 1))  (hp : pc + 1 = pc') (k : OwF p e below D T (mkF m pc' Ls (.long (XT.ushrL x y) :: r))) : OwF p e below D T (mkF m pc Ls (.int y :: .long x :: r)) := by
  subst hp; exact OwF.st (fun _ q => XT.lushr X.here C.1 rfl (hb C.2.1 hd) rfl q) k
theorem ow_lcmp {x y : Int64} (C : OwC p Z s m meth c own nm bytes maxL ret) (X : Stand p l e R s m args below meth c T locs cells slots) (hd : decode bytes pc = .ok (.lcmp, 1))  (hp : pc + 1 = pc') (k : OwF p e below D T (mkF m pc' Ls (.int (XT.cmpL x y) :: r))) : OwF p e below D T (mkF m pc Ls (.long y :: .long x :: r)) := by
  subst hp; exact OwF.st (fun _ q => XT.lcmp X.here C.1 rfl (hb C.2.1 hd) rfl q) k
theorem ow_ineg {x : Int32} (C : OwC p Z s m meth c own nm bytes maxL ret) (X : Stand p l e R s m args below meth c T locs cells slots) (hd : decode bytes pc = .ok (.ineg, 1))  (hp : pc + 1 = pc') (k : OwF p e below D T (mkF m pc' Ls (.int (-x) :: r))) : OwF p e below D T (mkF m pc Ls (.int x :: r)) := by
  subst hp; exact OwF.st (fun _ q => XS.ineg X.here C.1 rfl (hb C.2.1 hd) rfl q) k
theorem ow_lneg {x : Int64} (C : OwC p Z s m meth c own nm bytes maxL ret) (X : Stand p l e R s m args below meth c T locs cells slots) (hd : decode bytes pc = .ok (.lneg, 1))  (hp : pc + 1 = pc') (k : OwF p e below D T (mkF m pc' Ls (.long (-x) :: r))) : OwF p e below D T (mkF m pc Ls (.long x :: r)) := by
  subst hp; exact OwF.st (fun _ q => XT.lneg X.here C.1 rfl (hb C.2.1 hd) rfl q) k
theorem ow_i2l {x : Int32} (C : OwC p Z s m meth c own nm bytes maxL ret) (X : Stand p l e R s m args below meth c T locs cells slots) (hd : decode bytes pc = .ok (.i2l, 1))  (hp : pc + 1 = pc') (k : OwF p e below D T (mkF m pc' Ls (.long x.toInt64 :: r))) : OwF p e below D T (mkF m pc Ls (.int x :: r)) := by
  subst hp; exact OwF.st (fun _ q => XT.i2l X.here C.1 rfl (hb C.2.1 hd) rfl q) k
theorem ow_l2i {x : Int64} (C : OwC p Z s m meth c own nm bytes maxL ret) (X : Stand p l e R s m args below meth c T locs cells slots) (hd : decode bytes pc = .ok (.l2i, 1))  (hp : pc + 1 = pc') (k : OwF p e below D T (mkF m pc' Ls (.int x.toInt32 :: r))) : OwF p e below D T (mkF m pc Ls (.long x :: r)) := by
  subst hp; exact OwF.st (fun _ q => XT.l2i X.here C.1 rfl (hb C.2.1 hd) rfl q) k
theorem ow_i2b {x : Int32} (C : OwC p Z s m meth c own nm bytes maxL ret) (X : Stand p l e R s m args below meth c T locs cells slots) (hd : decode bytes pc = .ok (.i2b, 1))  (hp : pc + 1 = pc') (k : OwF p e below D T (mkF m pc' Ls (.int x.toInt8.toInt32 :: r))) : OwF p e below D T (mkF m pc Ls (.int x :: r)) := by
  subst hp; exact OwF.st (fun _ q => XT.i2b X.here C.1 rfl (hb C.2.1 hd) rfl q) k
theorem ow_i2c {x : Int32} (C : OwC p Z s m meth c own nm bytes maxL ret) (X : Stand p l e R s m args below meth c T locs cells slots) (hd : decode bytes pc = .ok (.i2c, 1))  (hp : pc + 1 = pc') (k : OwF p e below D T (mkF m pc' Ls (.int x.toUInt32.toUInt16.toUInt32.toInt32 :: r))) : OwF p e below D T (mkF m pc Ls (.int x :: r)) := by
  subst hp; exact OwF.st (fun _ q => XT.i2c X.here C.1 rfl (hb C.2.1 hd) rfl q) k
theorem ow_i2s {x : Int32} (C : OwC p Z s m meth c own nm bytes maxL ret) (X : Stand p l e R s m args below meth c T locs cells slots) (hd : decode bytes pc = .ok (.i2s, 1))  (hp : pc + 1 = pc') (k : OwF p e below D T (mkF m pc' Ls (.int x.toInt16.toInt32 :: r))) : OwF p e below D T (mkF m pc Ls (.int x :: r)) := by
  subst hp; exact OwF.st (fun _ q => XT.i2s X.here C.1 rfl (hb C.2.1 hd) rfl q) k
theorem ow_dup {v : Value} (C : OwC p Z s m meth c own nm bytes maxL ret) (X : Stand p l e R s m args below meth c T locs cells slots) (hd : decode bytes pc = .ok (.dup, 1)) (hc : v.category = 1) (hp : pc + 1 = pc') (k : OwF p e below D T (mkF m pc' Ls (v :: v :: r))) : OwF p e below D T (mkF m pc Ls (v :: r)) := by
  subst hp; exact OwF.st (fun _ q => XS.dup X.here C.1 rfl (hb C.2.1 hd) rfl hc q) k
theorem ow_pop {v : Value} (C : OwC p Z s m meth c own nm bytes maxL ret) (X : Stand p l e R s m args below meth c T locs cells slots) (hd : decode bytes pc = .ok (.pop, 1)) (hc : v.category = 1) (hp : pc + 1 = pc') (k : OwF p e below D T (mkF m pc' Ls (r))) : OwF p e below D T (mkF m pc Ls (v :: r)) := by
  subst hp; exact OwF.st (fun _ q => XT.pop X.here C.1 rfl (hb C.2.1 hd) rfl hc q) k
theorem ow_dupX1 {v w : Value} (C : OwC p Z s m meth c own nm bytes maxL ret) (X : Stand p l e R s m args below meth c T locs cells slots) (hd : decode bytes pc = .ok (.dup_x1, 1)) (hc : v.category = 1) (hc' : w.category = 1) (hp : pc + 1 = pc') (k : OwF p e below D T (mkF m pc' Ls (v :: w :: v :: r))) : OwF p e below D T (mkF m pc Ls (v :: w :: r)) := by
  subst hp; exact OwF.st (fun _ q => XT.dupX1 X.here C.1 rfl (hb C.2.1 hd) rfl hc hc' q) k
theorem ow_dup2 {v w : Value} (C : OwC p Z s m meth c own nm bytes maxL ret) (X : Stand p l e R s m args below meth c T locs cells slots) (hd : decode bytes pc = .ok (.dup2, 1)) (hc : v.category = 1) (hc' : w.category = 1) (hp : pc + 1 = pc') (k : OwF p e below D T (mkF m pc' Ls (v :: w :: v :: w :: r))) : OwF p e below D T (mkF m pc Ls (v :: w :: r)) := by
  subst hp; exact OwF.st (fun _ q => XT.dup2 X.here C.1 rfl (hb C.2.1 hd) rfl hc hc' q) k
theorem ow_dup2L {x : Int64} (C : OwC p Z s m meth c own nm bytes maxL ret) (X : Stand p l e R s m args below meth c T locs cells slots) (hd : decode bytes pc = .ok (.dup2, 1))  (hp : pc + 1 = pc') (k : OwF p e below D T (mkF m pc' Ls (.long x :: .long x :: r))) : OwF p e below D T (mkF m pc Ls (.long x :: r)) := by
  subst hp; exact OwF.st (fun _ q => XT.dup2L X.here C.1 rfl (hb C.2.1 hd) rfl q) k
theorem ow_aconstNull  (C : OwC p Z s m meth c own nm bytes maxL ret) (X : Stand p l e R s m args below meth c T locs cells slots) (hd : decode bytes pc = .ok (.aconst_null, 1))  (hp : pc + 1 = pc') (k : OwF p e below D T (mkF m pc' Ls (.null :: r))) : OwF p e below D T (mkF m pc Ls (r)) := by
  subst hp; exact OwF.st (fun _ q => XS.aconstNull X.here C.1 rfl (hb C.2.1 hd)  q) k
theorem ow_iloadN {j : Fin 4} {v : Int32} (C : OwC p Z s m meth c own nm bytes maxL ret) (X : Stand p l e R s m args below meth c T locs cells slots) (hd : decode bytes pc = .ok (.iload_n j, 1)) (hl : Ls[j.val]? = some (.val (.int v))) (hp : pc + 1 = pc') (k : OwF p e below D T (mkF m pc' Ls (.int v :: r))) : OwF p e below D T (mkF m pc Ls (r)) := by
  subst hp; exact OwF.st (fun _ q => XS.iloadN X.here C.1 rfl (hb C.2.1 hd) hl q) k
theorem ow_iload {j : Nat} {v : Int32} (C : OwC p Z s m meth c own nm bytes maxL ret) (X : Stand p l e R s m args below meth c T locs cells slots) (hd : decode bytes pc = .ok (.iload j, 2)) (hl : Ls[j]? = some (.val (.int v))) (hp : pc + 2 = pc') (k : OwF p e below D T (mkF m pc' Ls (.int v :: r))) : OwF p e below D T (mkF m pc Ls (r)) := by
  subst hp; exact OwF.st (fun _ q => XS.iload X.here C.1 rfl (hb C.2.1 hd) hl q) k
theorem ow_lloadN {j : Fin 4} {v : Int64} (C : OwC p Z s m meth c own nm bytes maxL ret) (X : Stand p l e R s m args below meth c T locs cells slots) (hd : decode bytes pc = .ok (.lload_n j, 1)) (hl : Ls[j.val]? = some (.val (.long v))) (hp : pc + 1 = pc') (k : OwF p e below D T (mkF m pc' Ls (.long v :: r))) : OwF p e below D T (mkF m pc Ls (r)) := by
  subst hp; exact OwF.st (fun _ q => XT.lloadN X.here C.1 rfl (hb C.2.1 hd) hl q) k
theorem ow_lload {j : Nat} {v : Int64} (C : OwC p Z s m meth c own nm bytes maxL ret) (X : Stand p l e R s m args below meth c T locs cells slots) (hd : decode bytes pc = .ok (.lload j, 2)) (hl : Ls[j]? = some (.val (.long v))) (hp : pc + 2 = pc') (k : OwF p e below D T (mkF m pc' Ls (.long v :: r))) : OwF p e below D T (mkF m pc Ls (r)) := by
  subst hp; exact OwF.st (fun _ q => XT.lload X.here C.1 rfl (hb C.2.1 hd) hl q) k
theorem ow_aloadN {j : Fin 4} {v : Value} (C : OwC p Z s m meth c own nm bytes maxL ret) (X : Stand p l e R s m args below meth c T locs cells slots) (hd : decode bytes pc = .ok (.aload_n j, 1)) (hl : Ls[j.val]? = some (.val v)) (hv : v.isRef = true) (hp : pc + 1 = pc') (k : OwF p e below D T (mkF m pc' Ls (v :: r))) : OwF p e below D T (mkF m pc Ls (r)) := by
  subst hp; exact OwF.st (fun _ q => XS.aloadN X.here C.1 rfl (hb C.2.1 hd) hl hv q) k
theorem ow_aload {j : Nat} {v : Value} (C : OwC p Z s m meth c own nm bytes maxL ret) (X : Stand p l e R s m args below meth c T locs cells slots) (hd : decode bytes pc = .ok (.aload j, 2)) (hl : Ls[j]? = some (.val v)) (hv : v.isRef = true) (hp : pc + 2 = pc') (k : OwF p e below D T (mkF m pc' Ls (v :: r))) : OwF p e below D T (mkF m pc Ls (r)) := by
  subst hp; exact OwF.st (fun _ q => XS.aload X.here C.1 rfl (hb C.2.1 hd) hl hv q) k
theorem ow_istoreN {j : Fin 4} {v : Int32} (C : OwC p Z s m meth c own nm bytes maxL ret) (X : Stand p l e R s m args below meth c T locs cells slots) (hd : decode bytes pc = .ok (.istore_n j, 1)) (hl : storeLocals Ls j.val (.int v) = some Ls') (hp : pc + 1 = pc') (k : OwF p e below D T (mkF m pc' Ls' (r))) : OwF p e below D T (mkF m pc Ls (.int v :: r)) := by
  subst hp; exact OwF.st (fun _ q => XS.istoreN X.here C.1 rfl (hb C.2.1 hd) rfl hl q) k
theorem ow_istore {j : Nat} {v : Int32} (C : OwC p Z s m meth c own nm bytes maxL ret) (X : Stand p l e R s m args below meth c T locs cells slots) (hd : decode bytes pc = .ok (.istore j, 2)) (hl : storeLocals Ls j (.int v) = some Ls') (hp : pc + 2 = pc') (k : OwF p e below D T (mkF m pc' Ls' (r))) : OwF p e below D T (mkF m pc Ls (.int v :: r)) := by
  subst hp; exact OwF.st (fun _ q => XS.istore X.here C.1 rfl (hb C.2.1 hd) rfl hl q) k
theorem ow_lstoreN {j : Fin 4} {v : Int64} (C : OwC p Z s m meth c own nm bytes maxL ret) (X : Stand p l e R s m args below meth c T locs cells slots) (hd : decode bytes pc = .ok (.lstore_n j, 1)) (hl : storeLocals Ls j.val (.long v) = some Ls') (hp : pc + 1 = pc') (k : OwF p e below D T (mkF m pc' Ls' (r))) : OwF p e below D T (mkF m pc Ls (.long v :: r)) := by
  subst hp; exact OwF.st (fun _ q => XT.lstoreN X.here C.1 rfl (hb C.2.1 hd) rfl hl q) k
theorem ow_lstore {j : Nat} {v : Int64} (C : OwC p Z s m meth c own nm bytes maxL ret) (X : Stand p l e R s m args below meth c T locs cells slots) (hd : decode bytes pc = .ok (.lstore j, 2)) (hl : storeLocals Ls j (.long v) = some Ls') (hp : pc + 2 = pc') (k : OwF p e below D T (mkF m pc' Ls' (r))) : OwF p e below D T (mkF m pc Ls (.long v :: r)) := by
  subst hp; exact OwF.st (fun _ q => XT.lstore X.here C.1 rfl (hb C.2.1 hd) rfl hl q) k
theorem ow_astoreN {j : Fin 4} {v : Value} (C : OwC p Z s m meth c own nm bytes maxL ret) (X : Stand p l e R s m args below meth c T locs cells slots) (hd : decode bytes pc = .ok (.astore_n j, 1)) (hv : v.isRef = true) (hl : storeLocals Ls j.val v = some Ls') (hp : pc + 1 = pc') (k : OwF p e below D T (mkF m pc' Ls' (r))) : OwF p e below D T (mkF m pc Ls (v :: r)) := by
  subst hp; exact OwF.st (fun _ q => XS.astoreN X.here C.1 rfl (hb C.2.1 hd) rfl hv hl q) k
theorem ow_astore {j : Nat} {v : Value} (C : OwC p Z s m meth c own nm bytes maxL ret) (X : Stand p l e R s m args below meth c T locs cells slots) (hd : decode bytes pc = .ok (.astore j, 2)) (hv : v.isRef = true) (hl : storeLocals Ls j v = some Ls') (hp : pc + 2 = pc') (k : OwF p e below D T (mkF m pc' Ls' (r))) : OwF p e below D T (mkF m pc Ls (v :: r)) := by
  subst hp; exact OwF.st (fun _ q => XS.astore X.here C.1 rfl (hb C.2.1 hd) rfl hv hl q) k
theorem ow_iconst {i : Int} (v : Int32) (C : OwC p Z s m meth c own nm bytes maxL ret) (X : Stand p l e R s m args below meth c T locs cells slots) (hd : decode bytes pc = .ok (.iconst i, 1)) (hv : Int32.ofInt i = v) (hp : pc + 1 = pc') (k : OwF p e below D T (mkF m pc' Ls (.int v :: r))) : OwF p e below D T (mkF m pc Ls r) := by
  subst hp; subst hv; exact OwF.st (fun _ q => XS.iconst X.here C.1 rfl (hb C.2.1 hd) q) k
theorem ow_bipush {i : Int} (v : Int32) (C : OwC p Z s m meth c own nm bytes maxL ret) (X : Stand p l e R s m args below meth c T locs cells slots) (hd : decode bytes pc = .ok (.bipush i, 2)) (hv : (Int8.ofInt i).toInt32 = v) (hp : pc + 2 = pc') (k : OwF p e below D T (mkF m pc' Ls (.int v :: r))) : OwF p e below D T (mkF m pc Ls r) := by
  subst hp; subst hv; exact OwF.st (fun _ q => XS.bipush X.here C.1 rfl (hb C.2.1 hd) q) k
theorem ow_sipush {i : Int} (v : Int32) (C : OwC p Z s m meth c own nm bytes maxL ret) (X : Stand p l e R s m args below meth c T locs cells slots) (hd : decode bytes pc = .ok (.sipush i, 3)) (hv : (Int16.ofInt i).toInt32 = v) (hp : pc + 3 = pc') (k : OwF p e below D T (mkF m pc' Ls (.int v :: r))) : OwF p e below D T (mkF m pc Ls r) := by
  subst hp; subst hv; exact OwF.st (fun _ q => XS.sipush X.here C.1 rfl (hb C.2.1 hd) q) k
theorem ow_lconst {i : Fin 2} (v : Int64) (C : OwC p Z s m meth c own nm bytes maxL ret) (X : Stand p l e R s m args below meth c T locs cells slots) (hd : decode bytes pc = .ok (.lconst i, 1)) (hv : Int64.ofNat i = v) (hp : pc + 1 = pc') (k : OwF p e below D T (mkF m pc' Ls (.long v :: r))) : OwF p e below D T (mkF m pc Ls r) := by
  subst hp; subst hv; exact OwF.st (fun _ q => XT.lconst X.here C.1 rfl (hb C.2.1 hd) q) k
theorem ow_iinc {i : Int} {j : Nat} {x : Int32} (v : Int32) (C : OwC p Z s m meth c own nm bytes maxL ret) (X : Stand p l e R s m args below meth c T locs cells slots) (hd : decode bytes pc = .ok (.iinc j i, 3)) (hv : Int32.ofInt i = v) (hl : Ls[j]? = some (.val (.int x))) (hl' : storeLocals Ls j (.int (x + v)) = some Ls') (hp : pc + 3 = pc') (k : OwF p e below D T (mkF m pc' Ls' r)) : OwF p e below D T (mkF m pc Ls r) := by
  subst hp; subst hv; exact OwF.st (fun _ q => XS.iinc X.here C.1 rfl (hb C.2.1 hd) hl hl' q) k
theorem ow_ldc {i : Nat} {v : Int32} (C : OwC p Z s m meth c own nm bytes maxL ret) (X : Stand p l e R s m args below meth c T locs cells slots) (w : (Jvm.Cond.constant own i v).before a0 Z = true) (hd : decode bytes pc = .ok (.ldc i, 2)) (hp : pc + 2 = pc') (k : OwF p e below D T (mkF m pc' Ls (.int v :: r))) : OwF p e below D T (mkF m pc Ls r) := by
  subst hp; exact OwF.st (fun _ q => X.ldcI C.1 C.2.2.2.1 (mvT C.2.2.2.2.2.2.2 w) rfl (hb C.2.1 hd) q) k
theorem ow_ldcW {i : Nat} {v : Int32} (C : OwC p Z s m meth c own nm bytes maxL ret) (X : Stand p l e R s m args below meth c T locs cells slots) (w : (Jvm.Cond.constant own i v).before a0 Z = true) (hd : decode bytes pc = .ok (.ldc_w i, 3)) (hp : pc + 3 = pc') (k : OwF p e below D T (mkF m pc' Ls (.int v :: r))) : OwF p e below D T (mkF m pc Ls r) := by
  subst hp; exact OwF.st (fun _ q => X.ldcWI C.1 C.2.2.2.1 (mvT C.2.2.2.2.2.2.2 w) rfl (hb C.2.1 hd) q) k
theorem ow_ldc2 {i : Nat} {v : Int64} (C : OwC p Z s m meth c own nm bytes maxL ret) (X : Stand p l e R s m args below meth c T locs cells slots) (w : (Jvm.Cond.constantLong own i v).before a0 Z = true) (hd : decode bytes pc = .ok (.ldc2_w i, 3)) (hp : pc + 3 = pc') (k : OwF p e below D T (mkF m pc' Ls (.long v :: r))) : OwF p e below D T (mkF m pc Ls r) := by
  subst hp; exact OwF.st (fun _ q => X.ldc2J C.1 C.2.2.2.1 (mvT C.2.2.2.2.2.2.2 w) rfl (hb C.2.1 hd) q) k
theorem ow_goto {o : Int} (C : OwC p Z s m meth c own nm bytes maxL ret) (X : Stand p l e R s m args below meth c T locs cells slots) (hd : decode bytes pc = .ok (.goto o, 3)) (ho : 0 ≤ (pc : Int) + o) (ht : ((pc : Int) + o).toNat = pcT) (k : OwF p e below D T (mkF m pcT Ls r)) : OwF p e below D T (mkF m pc Ls r) :=
  OwF.st (fun _ q => XS.goto X.here C.1 rfl rfl (hb C.2.1 hd) ho ht q) k
theorem ow_if_eq {x : Int32} {o : Int} (C : OwC p Z s m meth c own nm bytes maxL ret) (X : Stand p l e R s m args below meth c T locs cells slots) (hd : decode bytes pc = .ok (.ifCond .eq o, 3)) (ho : 0 ≤ (pc : Int) + o) (ht : ((pc : Int) + o).toNat = pcT) (hp : pc + 3 = pc') (k1 : x = 0 → OwF p e below D T (mkF m pcT Ls r)) (k2 : ¬ x = 0 → OwF p e below D T (mkF m pc' Ls r)) : OwF p e below D T (mkF m pc Ls (.int x :: r)) := by
  subst hp
  by_cases hq : x = 0
  · exact OwF.st (fun _ q => XS.ifYes X.here C.1 rfl rfl (hb C.2.1 hd) rfl (XT.i0_eq_t hq) ho ht q) (k1 hq)
  · exact OwF.st (fun _ q => XS.ifNo X.here C.1 rfl (hb C.2.1 hd) rfl (XT.i0_eq_f hq) q) (k2 hq)
theorem ow_icmp_eq {x y : Int32} {o : Int} (C : OwC p Z s m meth c own nm bytes maxL ret) (X : Stand p l e R s m args below meth c T locs cells slots) (hd : decode bytes pc = .ok (.if_icmp .eq o, 3)) (ho : 0 ≤ (pc : Int) + o) (ht : ((pc : Int) + o).toNat = pcT) (hp : pc + 3 = pc') (k1 : x = y → OwF p e below D T (mkF m pcT Ls r)) (k2 : ¬ x = y → OwF p e below D T (mkF m pc' Ls r)) : OwF p e below D T (mkF m pc Ls (.int y :: .int x :: r)) := by
  subst hp
  by_cases hq : x = y
  · exact OwF.st (fun _ q => XS.icmpYes X.here C.1 rfl rfl (hb C.2.1 hd) rfl (XT.ii_eq_t hq) ho ht q) (k1 hq)
  · exact OwF.st (fun _ q => XS.icmpNo X.here C.1 rfl (hb C.2.1 hd) rfl (XT.ii_eq_f hq) q) (k2 hq)
theorem ow_lif_eq {x y : Int64} {o : Int} (C : OwC p Z s m meth c own nm bytes maxL ret) (X : Stand p l e R s m args below meth c T locs cells slots) (hd : decode bytes pc = .ok (.ifCond .eq o, 3)) (ho : 0 ≤ (pc : Int) + o) (ht : ((pc : Int) + o).toNat = pcT) (hp : pc + 3 = pc') (k1 : x = y → OwF p e below D T (mkF m pcT Ls r)) (k2 : ¬ x = y → OwF p e below D T (mkF m pc' Ls r)) : OwF p e below D T (mkF m pc Ls (.int (XT.cmpL x y) :: r)) := by
  subst hp
  by_cases hq : x = y
  · exact OwF.st (fun _ q => XS.ifYes X.here C.1 rfl rfl (hb C.2.1 hd) rfl (XT.ll_eq_t hq) ho ht q) (k1 hq)
  · exact OwF.st (fun _ q => XS.ifNo X.here C.1 rfl (hb C.2.1 hd) rfl (XT.ll_eq_f hq) q) (k2 hq)
theorem ow_if_ne {x : Int32} {o : Int} (C : OwC p Z s m meth c own nm bytes maxL ret) (X : Stand p l e R s m args below meth c T locs cells slots) (hd : decode bytes pc = .ok (.ifCond .ne o, 3)) (ho : 0 ≤ (pc : Int) + o) (ht : ((pc : Int) + o).toNat = pcT) (hp : pc + 3 = pc') (k1 : ¬ x = 0 → OwF p e below D T (mkF m pcT Ls r)) (k2 : x = 0 → OwF p e below D T (mkF m pc' Ls r)) : OwF p e below D T (mkF m pc Ls (.int x :: r)) := by
  subst hp
  by_cases hq : x = 0
  · exact OwF.st (fun _ q => XS.ifNo X.here C.1 rfl (hb C.2.1 hd) rfl (XT.i0_ne_f hq) q) (k2 hq)
  · exact OwF.st (fun _ q => XS.ifYes X.here C.1 rfl rfl (hb C.2.1 hd) rfl (XT.i0_ne_t hq) ho ht q) (k1 hq)
theorem ow_icmp_ne {x y : Int32} {o : Int} (C : OwC p Z s m meth c own nm bytes maxL ret) (X : Stand p l e R s m args below meth c T locs cells slots) (hd : decode bytes pc = .ok (.if_icmp .ne o, 3)) (ho : 0 ≤ (pc : Int) + o) (ht : ((pc : Int) + o).toNat = pcT) (hp : pc + 3 = pc') (k1 : ¬ x = y → OwF p e below D T (mkF m pcT Ls r)) (k2 : x = y → OwF p e below D T (mkF m pc' Ls r)) : OwF p e below D T (mkF m pc Ls (.int y :: .int x :: r)) := by
  subst hp
  by_cases hq : x = y
  · exact OwF.st (fun _ q => XS.icmpNo X.here C.1 rfl (hb C.2.1 hd) rfl (XT.ii_ne_f hq) q) (k2 hq)
  · exact OwF.st (fun _ q => XS.icmpYes X.here C.1 rfl rfl (hb C.2.1 hd) rfl (XT.ii_ne_t hq) ho ht q) (k1 hq)
theorem ow_lif_ne {x y : Int64} {o : Int} (C : OwC p Z s m meth c own nm bytes maxL ret) (X : Stand p l e R s m args below meth c T locs cells slots) (hd : decode bytes pc = .ok (.ifCond .ne o, 3)) (ho : 0 ≤ (pc : Int) + o) (ht : ((pc : Int) + o).toNat = pcT) (hp : pc + 3 = pc') (k1 : ¬ x = y → OwF p e below D T (mkF m pcT Ls r)) (k2 : x = y → OwF p e below D T (mkF m pc' Ls r)) : OwF p e below D T (mkF m pc Ls (.int (XT.cmpL x y) :: r)) := by
  subst hp
  by_cases hq : x = y
  · exact OwF.st (fun _ q => XS.ifNo X.here C.1 rfl (hb C.2.1 hd) rfl (XT.ll_ne_f hq) q) (k2 hq)
  · exact OwF.st (fun _ q => XS.ifYes X.here C.1 rfl rfl (hb C.2.1 hd) rfl (XT.ll_ne_t hq) ho ht q) (k1 hq)
theorem ow_if_lt {x : Int32} {o : Int} (C : OwC p Z s m meth c own nm bytes maxL ret) (X : Stand p l e R s m args below meth c T locs cells slots) (hd : decode bytes pc = .ok (.ifCond .lt o, 3)) (ho : 0 ≤ (pc : Int) + o) (ht : ((pc : Int) + o).toNat = pcT) (hp : pc + 3 = pc') (k1 : x < 0 → OwF p e below D T (mkF m pcT Ls r)) (k2 : ¬ x < 0 → OwF p e below D T (mkF m pc' Ls r)) : OwF p e below D T (mkF m pc Ls (.int x :: r)) := by
  subst hp
  by_cases hq : x < 0
  · exact OwF.st (fun _ q => XS.ifYes X.here C.1 rfl rfl (hb C.2.1 hd) rfl (XT.i0_lt_t hq) ho ht q) (k1 hq)
  · exact OwF.st (fun _ q => XS.ifNo X.here C.1 rfl (hb C.2.1 hd) rfl (XT.i0_lt_f hq) q) (k2 hq)
theorem ow_icmp_lt {x y : Int32} {o : Int} (C : OwC p Z s m meth c own nm bytes maxL ret) (X : Stand p l e R s m args below meth c T locs cells slots) (hd : decode bytes pc = .ok (.if_icmp .lt o, 3)) (ho : 0 ≤ (pc : Int) + o) (ht : ((pc : Int) + o).toNat = pcT) (hp : pc + 3 = pc') (k1 : x < y → OwF p e below D T (mkF m pcT Ls r)) (k2 : ¬ x < y → OwF p e below D T (mkF m pc' Ls r)) : OwF p e below D T (mkF m pc Ls (.int y :: .int x :: r)) := by
  subst hp
  by_cases hq : x < y
  · exact OwF.st (fun _ q => XS.icmpYes X.here C.1 rfl rfl (hb C.2.1 hd) rfl (XT.ii_lt_t hq) ho ht q) (k1 hq)
  · exact OwF.st (fun _ q => XS.icmpNo X.here C.1 rfl (hb C.2.1 hd) rfl (XT.ii_lt_f hq) q) (k2 hq)
theorem ow_lif_lt {x y : Int64} {o : Int} (C : OwC p Z s m meth c own nm bytes maxL ret) (X : Stand p l e R s m args below meth c T locs cells slots) (hd : decode bytes pc = .ok (.ifCond .lt o, 3)) (ho : 0 ≤ (pc : Int) + o) (ht : ((pc : Int) + o).toNat = pcT) (hp : pc + 3 = pc') (k1 : x < y → OwF p e below D T (mkF m pcT Ls r)) (k2 : ¬ x < y → OwF p e below D T (mkF m pc' Ls r)) : OwF p e below D T (mkF m pc Ls (.int (XT.cmpL x y) :: r)) := by
  subst hp
  by_cases hq : x < y
  · exact OwF.st (fun _ q => XS.ifYes X.here C.1 rfl rfl (hb C.2.1 hd) rfl (XT.ll_lt_t hq) ho ht q) (k1 hq)
  · exact OwF.st (fun _ q => XS.ifNo X.here C.1 rfl (hb C.2.1 hd) rfl (XT.ll_lt_f hq) q) (k2 hq)
theorem ow_if_ge {x : Int32} {o : Int} (C : OwC p Z s m meth c own nm bytes maxL ret) (X : Stand p l e R s m args below meth c T locs cells slots) (hd : decode bytes pc = .ok (.ifCond .ge o, 3)) (ho : 0 ≤ (pc : Int) + o) (ht : ((pc : Int) + o).toNat = pcT) (hp : pc + 3 = pc') (k1 : ¬ x < 0 → OwF p e below D T (mkF m pcT Ls r)) (k2 : x < 0 → OwF p e below D T (mkF m pc' Ls r)) : OwF p e below D T (mkF m pc Ls (.int x :: r)) := by
  subst hp
  by_cases hq : x < 0
  · exact OwF.st (fun _ q => XS.ifNo X.here C.1 rfl (hb C.2.1 hd) rfl (XT.i0_ge_f hq) q) (k2 hq)
  · exact OwF.st (fun _ q => XS.ifYes X.here C.1 rfl rfl (hb C.2.1 hd) rfl (XT.i0_ge_t hq) ho ht q) (k1 hq)
theorem ow_icmp_ge {x y : Int32} {o : Int} (C : OwC p Z s m meth c own nm bytes maxL ret) (X : Stand p l e R s m args below meth c T locs cells slots) (hd : decode bytes pc = .ok (.if_icmp .ge o, 3)) (ho : 0 ≤ (pc : Int) + o) (ht : ((pc : Int) + o).toNat = pcT) (hp : pc + 3 = pc') (k1 : ¬ x < y → OwF p e below D T (mkF m pcT Ls r)) (k2 : x < y → OwF p e below D T (mkF m pc' Ls r)) : OwF p e below D T (mkF m pc Ls (.int y :: .int x :: r)) := by
  subst hp
  by_cases hq : x < y
  · exact OwF.st (fun _ q => XS.icmpNo X.here C.1 rfl (hb C.2.1 hd) rfl (XT.ii_ge_f hq) q) (k2 hq)
  · exact OwF.st (fun _ q => XS.icmpYes X.here C.1 rfl rfl (hb C.2.1 hd) rfl (XT.ii_ge_t hq) ho ht q) (k1 hq)
theorem ow_lif_ge {x y : Int64} {o : Int} (C : OwC p Z s m meth c own nm bytes maxL ret) (X : Stand p l e R s m args below meth c T locs cells slots) (hd : decode bytes pc = .ok (.ifCond .ge o, 3)) (ho : 0 ≤ (pc : Int) + o) (ht : ((pc : Int) + o).toNat = pcT) (hp : pc + 3 = pc') (k1 : ¬ x < y → OwF p e below D T (mkF m pcT Ls r)) (k2 : x < y → OwF p e below D T (mkF m pc' Ls r)) : OwF p e below D T (mkF m pc Ls (.int (XT.cmpL x y) :: r)) := by
  subst hp
  by_cases hq : x < y
  · exact OwF.st (fun _ q => XS.ifNo X.here C.1 rfl (hb C.2.1 hd) rfl (XT.ll_ge_f hq) q) (k2 hq)
  · exact OwF.st (fun _ q => XS.ifYes X.here C.1 rfl rfl (hb C.2.1 hd) rfl (XT.ll_ge_t hq) ho ht q) (k1 hq)
theorem ow_if_gt {x : Int32} {o : Int} (C : OwC p Z s m meth c own nm bytes maxL ret) (X : Stand p l e R s m args below meth c T locs cells slots) (hd : decode bytes pc = .ok (.ifCond .gt o, 3)) (ho : 0 ≤ (pc : Int) + o) (ht : ((pc : Int) + o).toNat = pcT) (hp : pc + 3 = pc') (k1 : 0 < x → OwF p e below D T (mkF m pcT Ls r)) (k2 : ¬ 0 < x → OwF p e below D T (mkF m pc' Ls r)) : OwF p e below D T (mkF m pc Ls (.int x :: r)) := by
  subst hp
  by_cases hq : 0 < x
  · exact OwF.st (fun _ q => XS.ifYes X.here C.1 rfl rfl (hb C.2.1 hd) rfl (XT.i0_gt_t hq) ho ht q) (k1 hq)
  · exact OwF.st (fun _ q => XS.ifNo X.here C.1 rfl (hb C.2.1 hd) rfl (XT.i0_gt_f hq) q) (k2 hq)
theorem ow_icmp_gt {x y : Int32} {o : Int} (C : OwC p Z s m meth c own nm bytes maxL ret) (X : Stand p l e R s m args below meth c T locs cells slots) (hd : decode bytes pc = .ok (.if_icmp .gt o, 3)) (ho : 0 ≤ (pc : Int) + o) (ht : ((pc : Int) + o).toNat = pcT) (hp : pc + 3 = pc') (k1 : y < x → OwF p e below D T (mkF m pcT Ls r)) (k2 : ¬ y < x → OwF p e below D T (mkF m pc' Ls r)) : OwF p e below D T (mkF m pc Ls (.int y :: .int x :: r)) := by
  subst hp
  by_cases hq : y < x
  · exact OwF.st (fun _ q => XS.icmpYes X.here C.1 rfl rfl (hb C.2.1 hd) rfl (XT.ii_gt_t hq) ho ht q) (k1 hq)
  · exact OwF.st (fun _ q => XS.icmpNo X.here C.1 rfl (hb C.2.1 hd) rfl (XT.ii_gt_f hq) q) (k2 hq)
theorem ow_lif_gt {x y : Int64} {o : Int} (C : OwC p Z s m meth c own nm bytes maxL ret) (X : Stand p l e R s m args below meth c T locs cells slots) (hd : decode bytes pc = .ok (.ifCond .gt o, 3)) (ho : 0 ≤ (pc : Int) + o) (ht : ((pc : Int) + o).toNat = pcT) (hp : pc + 3 = pc') (k1 : y < x → OwF p e below D T (mkF m pcT Ls r)) (k2 : ¬ y < x → OwF p e below D T (mkF m pc' Ls r)) : OwF p e below D T (mkF m pc Ls (.int (XT.cmpL x y) :: r)) := by
  subst hp
  by_cases hq : y < x
  · exact OwF.st (fun _ q => XS.ifYes X.here C.1 rfl rfl (hb C.2.1 hd) rfl (XT.ll_gt_t hq) ho ht q) (k1 hq)
  · exact OwF.st (fun _ q => XS.ifNo X.here C.1 rfl (hb C.2.1 hd) rfl (XT.ll_gt_f hq) q) (k2 hq)
theorem ow_if_le {x : Int32} {o : Int} (C : OwC p Z s m meth c own nm bytes maxL ret) (X : Stand p l e R s m args below meth c T locs cells slots) (hd : decode bytes pc = .ok (.ifCond .le o, 3)) (ho : 0 ≤ (pc : Int) + o) (ht : ((pc : Int) + o).toNat = pcT) (hp : pc + 3 = pc') (k1 : ¬ 0 < x → OwF p e below D T (mkF m pcT Ls r)) (k2 : 0 < x → OwF p e below D T (mkF m pc' Ls r)) : OwF p e below D T (mkF m pc Ls (.int x :: r)) := by
  subst hp
  by_cases hq : 0 < x
  · exact OwF.st (fun _ q => XS.ifNo X.here C.1 rfl (hb C.2.1 hd) rfl (XT.i0_le_f hq) q) (k2 hq)
  · exact OwF.st (fun _ q => XS.ifYes X.here C.1 rfl rfl (hb C.2.1 hd) rfl (XT.i0_le_t hq) ho ht q) (k1 hq)
theorem ow_icmp_le {x y : Int32} {o : Int} (C : OwC p Z s m meth c own nm bytes maxL ret) (X : Stand p l e R s m args below meth c T locs cells slots) (hd : decode bytes pc = .ok (.if_icmp .le o, 3)) (ho : 0 ≤ (pc : Int) + o) (ht : ((pc : Int) + o).toNat = pcT) (hp : pc + 3 = pc') (k1 : ¬ y < x → OwF p e below D T (mkF m pcT Ls r)) (k2 : y < x → OwF p e below D T (mkF m pc' Ls r)) : OwF p e below D T (mkF m pc Ls (.int y :: .int x :: r)) := by
  subst hp
  by_cases hq : y < x
  · exact OwF.st (fun _ q => XS.icmpNo X.here C.1 rfl (hb C.2.1 hd) rfl (XT.ii_le_f hq) q) (k2 hq)
  · exact OwF.st (fun _ q => XS.icmpYes X.here C.1 rfl rfl (hb C.2.1 hd) rfl (XT.ii_le_t hq) ho ht q) (k1 hq)
theorem ow_lif_le {x y : Int64} {o : Int} (C : OwC p Z s m meth c own nm bytes maxL ret) (X : Stand p l e R s m args below meth c T locs cells slots) (hd : decode bytes pc = .ok (.ifCond .le o, 3)) (ho : 0 ≤ (pc : Int) + o) (ht : ((pc : Int) + o).toNat = pcT) (hp : pc + 3 = pc') (k1 : ¬ y < x → OwF p e below D T (mkF m pcT Ls r)) (k2 : y < x → OwF p e below D T (mkF m pc' Ls r)) : OwF p e below D T (mkF m pc Ls (.int (XT.cmpL x y) :: r)) := by
  subst hp
  by_cases hq : y < x
  · exact OwF.st (fun _ q => XS.ifNo X.here C.1 rfl (hb C.2.1 hd) rfl (XT.ll_le_f hq) q) (k2 hq)
  · exact OwF.st (fun _ q => XS.ifYes X.here C.1 rfl rfl (hb C.2.1 hd) rfl (XT.ll_le_t hq) ho ht q) (k1 hq)
end OwnSteps
section OwnObj
variable {p : Program} {l : Launch} {e : Env} {R : Room} {s : State} {m : MethodId} {args : Array Value} {below : List Frame} {meth : Method} {c : Code} {T : State} {locs : List Loc} {cells slots : Nat} {Z : State} {a0 : Array Value} {h : Heap}
variable {own nm : String} {bytes : ByteArray} {maxL : Nat} {ret : Option FieldType} {D : State → Outcome → Prop} {pc pc' pcT : Nat} {Ls Ls' : Array Slot} {r : List Value}
/-- what lies on a stack, in words -/
abbrev owCat (r : List Value) : Nat := (r.map fun v => v.category).sum
theorem ow_getF {O n d : String} {index : Nat} {a : Addr} {v : Value} (C : OwC p Z s m meth c own nm bytes maxL ret) (X : Stand p l e R s m args below meth c T locs cells slots) (eT : T.heap = h) (w : (Jvm.Cond.fieldLink own index O n d).before a0 Z = true) (F : Fld Z h a O n d v)
    (hd : decode bytes pc = .ok (.getfield index, 3)) (hp : pc + 3 = pc') (k : ∀ T', Stand p l e R s m args below meth c T' locs cells slots → T'.heap = h → OwF p e below D T' (mkF m pc' Ls (v :: r))) : OwF p e below D T (mkF m pc Ls (.ref a :: r)) := by
  subst hp
  obtain ⟨T', X', e', st⟩ := getF X C.1 C.2.2.2.2.2.2.2 C.2.2.2.1 (host := "") (Or.inl w) Via.refl eT F (g := mkF m pc Ls (.ref a :: r)) rfl rfl (hb C.2.1 hd)
  exact OwF.st st (k T' X' e')
theorem ow_putF {O n d K : String} {index kk : Nat} {ty : FieldType} {a : Addr} {v old : Value} (C : OwC p Z s m meth c own nm bytes maxL ret) (X : Stand p l e R s m args below meth c T locs cells slots) (eT : T.heap = h) (w : (Jvm.Cond.fieldLink own index O n d).before a0 Z = true) (F : Fld Z h a O n d old) (E : Exa Z h a K)
    (L : (Jvm.Cond.lays K O n d).before a0 Z = true ∨ ((Jvm.Cond.laysFinal K O n d).before a0 Z = true ∧ own = O ∧ nm = "<init>")) (wi : (Jvm.Cond.instantiable K kk).before a0 Z = true) (hty : parseFieldDescriptor d = some ty) (hn : narrow ty v = v) (hf : fits ty v = true)
    (hd : decode bytes pc = .ok (.putfield index, 3)) (hp : pc + 3 = pc')
    (k : ∀ T' h', Stand p l e R s m args below meth c T' (locs ++ [⟨a, Jvm.RoadKit.slotOf Z O n d⟩]) cells slots → T'.heap = h' → Wr h h' a (Jvm.RoadKit.slotOf Z O n d) v → OwF p e below D T' (mkF m pc' Ls r)) : OwF p e below D T (mkF m pc Ls (v :: .ref a :: r)) := by
  subst hp
  obtain ⟨T', h', X', e', W', st⟩ := putF X C.1 C.2.2.2.2.2.2.2 C.2.2.2.1 (host := "") (Or.inl w) Via.refl eT F E (L.imp id fun q => ⟨q.1, q.2.1, C.2.2.2.2.1.trans q.2.2⟩) wi hty hn hf (g := mkF m pc Ls (v :: .ref a :: r)) rfl rfl (hb C.2.1 hd)
  exact OwF.st st (k T' h' X' e' W')
theorem ow_getS {O n d : String} {index : Nat} {v : Value} (C : OwC p Z s m meth c own nm bytes maxL ret) (X : Stand p l e R s m args below meth c T locs cells slots) (eT : T.heap = h) (w : (Jvm.Cond.fieldLink own index O n d).before a0 Z = true) (F : Sta Z h O n d v)
    (hd : decode bytes pc = .ok (.getstatic index, 3)) (hp : pc + 3 = pc') (k : ∀ T', Stand p l e R s m args below meth c T' locs cells slots → T'.heap = h → OwF p e below D T' (mkF m pc' Ls (v :: r))) : OwF p e below D T (mkF m pc Ls r) := by
  subst hp
  obtain ⟨T', X', e', st⟩ := getS X C.1 C.2.2.2.2.2.2.2 C.2.2.2.1 (host := "") w Via.refl eT F (g := mkF m pc Ls r) rfl (hb C.2.1 hd)
  exact OwF.st st (k T' X' e')
theorem ow_new {K : String} {index n : Nat} (C : OwC p Z s m meth c own nm bytes maxL ret) (X : Stand p l e R s m args below meth c T locs cells slots) (eT : T.heap = h) (w : (Jvm.Cond.classLink own index K).before a0 Z = true) (wi : (Jvm.Cond.instantiable K n).before a0 Z = true) (wz : (Jvm.Cond.initialized K).before a0 Z = true)
    (hd : decode bytes pc = .ok (.new index, 3)) (hc : cells + 1 ≤ R.cells) (hl : slots + n ≤ R.slots) (hp : pc + 3 = pc')
    (k : ∀ T' h' a, a = h.size → Stand p l e R s m args below meth c T' locs (cells + 1) (slots + n) → T'.heap = h' → Ext h h' → Exa Z h' a K → (∀ {O nm d : String} {ty : FieldType}, Laid Z a0 K O nm d → parseFieldDescriptor d = some ty → Fld Z h' a O nm d (defaultValue ty)) → OwF p e below D T' (mkF m pc' Ls (.ref a :: r))) : OwF p e below D T (mkF m pc Ls r) := by
  subst hp
  obtain ⟨T', h', X', e', E', A', D', -, st⟩ := newO X C.1 C.2.2.2.2.2.2.2 C.2.2.2.1 w wi wz eT (g := mkF m pc Ls r) rfl (hb C.2.1 hd) hc hl
  exact OwF.st st (k T' h' _ rfl X' e' E' A' D')
theorem ow_initO {index : Nat} {a : Addr} (C : OwC p Z s m meth c own nm bytes maxL ret) (X : Stand p l e R s m args below meth c T locs cells slots) (eT : T.heap = h) (w1 : (Jvm.Cond.methodLink own index Lib.objectInit).before a0 Z = true) (w2 : (Jvm.Cond.instanceMethod Lib.objectInit).before a0 Z = true)
    (w3 : (Jvm.Cond.code Lib.objectInit ⟨#[0xb1]⟩ 1 none).before a0 Z = true) (hsz : Ls.size = maxL) (hd : decode bytes pc = .ok (.invokespecial index, 3)) (hf : 1 ≤ R.frames) (hl : owCat r + 12 ≤ R.locals) (hp : pc + 3 = pc')
    (k : ∀ T', Stand p l e R s m args below meth c T' locs cells slots → T'.heap = h → OwF p e below D T' (mkF m pc' Ls r)) : OwF p e below D T (mkF m pc Ls (.ref a :: r)) := by
  subst hp
  obtain ⟨T', X', e', st⟩ := initO X C.1 C.2.2.2.2.2.2.2 C.2.2.2.1 w1 w2 w3 eT (g := mkF m pc Ls (.ref a :: r)) rfl (by rw [C.2.2.1]; exact hsz) rfl (hb C.2.1 hd) hf (W := owCat r) (by show 2 * 0 + owCat r ≤ owCat r; omega) hl
  exact OwF.st st (k T' X' e')
/-- a static method by its contract -/
theorem ow_callS {index : Nat} {y : MethodName} {by' : ByteArray} {mx : Nat} {rt : Option FieldType} {rm : Room} {Q : Option Value → Heap → List Loc → Prop} {stk argsL rest : List Value} {ps : List FieldType} {pr : Option FieldType}
    (C : OwC p Z s m meth c own nm bytes maxL ret) (X : Stand p l e R s m args below meth c T locs cells slots) (eT : T.heap = h)
    (w1 : (Jvm.Cond.methodLink own index y).before a0 Z = true) (w2 : (Jvm.Cond.static y).before a0 Z = true) (w3 : (Jvm.Cond.initialized y.cls).before a0 Z = true) (w4 : (Jvm.Cond.code y by' mx rt).before a0 Z = true) (hy : y.cls ≠ "java/lang/invoke/MethodHandle" ∧ y.cls ≠ "java/lang/invoke/VarHandle")
    (M : OwCon l y by' mx rt rm Z argsL.toArray h Q) (hds : parseMethodDescriptor y.desc = some ⟨ps, pr⟩) (hln : argsL.length = ps.length) (hst : stk = argsL.reverse ++ rest) (hsz : Ls.size = maxL)
    (hd : decode bytes pc = .ok (.invokestatic index, 3)) (hfr : rm.frames + 1 ≤ R.frames) (hlo : owCat rest + (mx + 11) + rm.locals ≤ R.locals) (hcl : cells + rm.cells ≤ R.cells) (hsl : slots + rm.slots ≤ R.slots) (hp : pc + 3 = pc')
    (k : ∀ T' v L, Stand p l e R s m args below meth c T' (locs ++ L) (cells + rm.cells) (slots + rm.slots) → Q v T'.heap L → OwF p e below D T' (mkF m pc' Ls (v.toList ++ rest))) : OwF p e below D T (mkF m pc Ls stk) := by
  subst hp; subst hst
  have hZ := C.2.2.2.2.2.2.2
  obtain ⟨v, _, ⟨T', L', k', n'⟩, -, X', ⟨Lc, hQ, l', y', z'⟩, st⟩ := Jvm.LawKit.callS X C.1 (y := y) C.2.2.2.1 (mvT hZ w1) (mvT hZ w2) (mvT hZ w3) (mvT hZ w4) hy (backOf (W := owCat rest) (M []) hZ w4 w3 hfr hlo) (g := mkF m pc Ls (argsL.reverse ++ rest)) rfl (by rw [C.2.2.1]; exact hsz) (argsL := argsL) (rest := rest) (lenOf hds hln) rfl (by show 2 * 0 + owCat rest ≤ owCat rest; omega) (hb C.2.1 hd) (fun _ _ => ⟨rfl, eT, hcl, hsl⟩)
  dsimp only [Pt.U, Pt.locs, Pt.cells, Pt.slots] at X' l' y' z' st hQ
  subst l' y' z'
  exact OwF.st st (k T' v Lc X' hQ)
/-- a constructor by its contract -/
theorem ow_callN {index : Nat} {y : MethodName} {by' : ByteArray} {mx : Nat} {rm : Room} {Q : Option Value → Heap → List Loc → Prop} {stk argsL rest : List Value} {ps : List FieldType} {pr : Option FieldType} {a : Addr}
    (C : OwC p Z s m meth c own nm bytes maxL ret) (X : Stand p l e R s m args below meth c T locs cells slots) (eT : T.heap = h) (hni : y.name = "<init>")
    (w1 : (Jvm.Cond.methodLink own index y).before a0 Z = true) (w2 : (Jvm.Cond.instanceMethod y).before a0 Z = true) (w3 : (Jvm.Cond.initialized y.cls).before a0 Z = true) (w4 : (Jvm.Cond.code y by' mx none).before a0 Z = true) (hy : y.cls ≠ "java/lang/invoke/MethodHandle" ∧ y.cls ≠ "java/lang/invoke/VarHandle")
    (M : OwCon l y by' mx none rm Z (.ref a :: argsL).toArray h Q) (hds : parseMethodDescriptor y.desc = some ⟨ps, pr⟩) (hln : argsL.length = ps.length) (hst : stk = argsL.reverse ++ .ref a :: rest) (hsz : Ls.size = maxL)
    (hd : decode bytes pc = .ok (.invokespecial index, 3)) (hfr : rm.frames + 1 ≤ R.frames) (hlo : owCat rest + (mx + 11) + rm.locals ≤ R.locals) (hcl : cells + rm.cells ≤ R.cells) (hsl : slots + rm.slots ≤ R.slots) (hp : pc + 3 = pc')
    (k : ∀ T' v L, Stand p l e R s m args below meth c T' (locs ++ L) (cells + rm.cells) (slots + rm.slots) → Q v T'.heap L → OwF p e below D T' (mkF m pc' Ls (v.toList ++ rest))) : OwF p e below D T (mkF m pc Ls stk) := by
  subst hp; subst hst
  have hZ := C.2.2.2.2.2.2.2
  obtain ⟨v, _, ⟨T', L', k', n'⟩, -, X', ⟨Lc, hQ, l', y', z'⟩, st⟩ := X.specialBack C.1 (y := y) hni C.2.2.2.1 (mvT hZ w1) (mvT hZ w2) (mvT hZ w4) hy (backOf (W := owCat rest) (M []) hZ w4 w3 hfr hlo) (g := mkF m pc Ls (argsL.reverse ++ .ref a :: rest)) rfl (by rw [C.2.2.1]; exact hsz) (Steps.refl _) (a := a) (argsL := argsL) (rest := rest) (lenOf hds hln) rfl (by show 2 * 0 + owCat rest ≤ owCat rest; omega) (hb C.2.1 hd) (fun _ _ => ⟨rfl, eT, hcl, hsl⟩)
  dsimp only [Pt.U, Pt.locs, Pt.cells, Pt.slots] at X' l' y' z' st hQ
  subst l' y' z'
  exact OwF.st (fun _ q => st.trans q) (k T' v Lc X' hQ)
/-- an instance method by its contract -/
theorem ow_callV {K : String} {index : Nat} {y : MethodName} {by' : ByteArray} {mx : Nat} {rt : Option FieldType} {rm : Room} {Q : Option Value → Heap → List Loc → Prop} {stk argsL rest : List Value} {ps : List FieldType} {pr : Option FieldType} {a : Addr}
    (C : OwC p Z s m meth c own nm bytes maxL ret) (X : Stand p l e R s m args below meth c T locs cells slots) (eT : T.heap = h)
    (w1 : (Jvm.Cond.methodLink own index y).before a0 Z = true) (w2 : (Jvm.Cond.declares y).before a0 Z = true) (w5 : (Jvm.Cond.selects K y y).before a0 Z = true) (hK : K = y.cls) (w6 : (Jvm.Cond.instanceMethod y).before a0 Z = true) (w3 : (Jvm.Cond.initialized y.cls).before a0 Z = true) (w4 : (Jvm.Cond.code y by' mx rt).before a0 Z = true)
    (hy : y.cls ≠ "java/lang/invoke/MethodHandle" ∧ y.cls ≠ "java/lang/invoke/VarHandle") (E : Exa Z h a K)
    (M : OwCon l y by' mx rt rm Z (.ref a :: argsL).toArray h Q) (hds : parseMethodDescriptor y.desc = some ⟨ps, pr⟩) (hln : argsL.length = ps.length) (hst : stk = argsL.reverse ++ .ref a :: rest) (hsz : Ls.size = maxL)
    (hd : decode bytes pc = .ok (.invokevirtual index, 3)) (hfr : rm.frames + 1 ≤ R.frames) (hlo : owCat rest + (mx + 11) + rm.locals ≤ R.locals) (hcl : cells + rm.cells ≤ R.cells) (hsl : slots + rm.slots ≤ R.slots) (hp : pc + 3 = pc')
    (k : ∀ T' v L, Stand p l e R s m args below meth c T' (locs ++ L) (cells + rm.cells) (slots + rm.slots) → Q v T'.heap L → OwF p e below D T' (mkF m pc' Ls (v.toList ++ rest))) : OwF p e below D T (mkF m pc Ls stk) := by
  subst hp; subst hst; subst hK
  have hZ := C.2.2.2.2.2.2.2
  obtain ⟨cq, kq, q1, q2, q3⟩ := isOf hZ eT E
  obtain ⟨v, _, ⟨T', L', k', n'⟩, -, X', ⟨Lc, hQ, l', y', z'⟩, st⟩ := X.virtualBack C.1 (y := y) (z := y) C.2.2.2.1 (mvT hZ w1) (mvT hZ w2) (notFace_of_selects (args := #[]) (mvT hZ w5)) (mvT hZ w5) (mvT hZ w6) hy (backOf (W := owCat rest) (M []) hZ w4 w3 hfr hlo) q1 q3 (g := mkF m pc Ls (argsL.reverse ++ .ref a :: rest)) rfl (by rw [C.2.2.1]; exact hsz) (Steps.refl _) (argsL := argsL) (rest := rest) (lenOf hds hln) rfl (by show 2 * 0 + owCat rest ≤ owCat rest; omega) (hb C.2.1 hd) (fun _ _ => ⟨rfl, eT, hcl, hsl⟩)
  dsimp only [Pt.U, Pt.locs, Pt.cells, Pt.slots] at X' l' y' z' st hQ
  subst l' y' z'
  exact OwF.st (fun _ q => st.trans q) (k T' v Lc X' hQ)
/-- a pure answer: the value, nothing written, the heap as it was -/
abbrev OwP (v : Option Value) (h : Heap) (v' : Option Value) (h' : Heap) (L : List Loc) : Prop := v' = v ∧ L = [] ∧ h' = h
/-- a pure static method -/
theorem ow_callSP {index : Nat} {y : MethodName} {by' : ByteArray} {mx : Nat} {rt : Option FieldType} {rm : Room} {v : Value} {stk argsL rest : List Value} {ps : List FieldType} {pr : Option FieldType}
    (C : OwC p Z s m meth c own nm bytes maxL ret) (X : Stand p l e R s m args below meth c T locs cells slots) (eT : T.heap = h)
    (w1 : (Jvm.Cond.methodLink own index y).before a0 Z = true) (w2 : (Jvm.Cond.static y).before a0 Z = true) (w3 : (Jvm.Cond.initialized y.cls).before a0 Z = true) (w4 : (Jvm.Cond.code y by' mx rt).before a0 Z = true) (hy : y.cls ≠ "java/lang/invoke/MethodHandle" ∧ y.cls ≠ "java/lang/invoke/VarHandle")
    (M : OwCon l y by' mx rt rm Z argsL.toArray h (OwP (some v) h)) (hrm : rm.cells = 0 ∧ rm.slots = 0) (hds : parseMethodDescriptor y.desc = some ⟨ps, pr⟩) (hln : argsL.length = ps.length) (hst : stk = argsL.reverse ++ rest) (hsz : Ls.size = maxL)
    (hd : decode bytes pc = .ok (.invokestatic index, 3)) (hfr : rm.frames + 1 ≤ R.frames) (hlo : owCat rest + (mx + 11) + rm.locals ≤ R.locals) (hcl : cells ≤ R.cells) (hsl : slots ≤ R.slots) (hp : pc + 3 = pc')
    (k : ∀ T', Stand p l e R s m args below meth c T' locs cells slots → T'.heap = h → OwF p e below D T' (mkF m pc' Ls (v :: rest))) : OwF p e below D T (mkF m pc Ls stk) := by
  refine ow_callS C X eT w1 w2 w3 w4 hy M hds hln hst hsz hd hfr hlo (by rw [hrm.1]; exact hcl) (by rw [hrm.2]; exact hsl) hp fun T' v' L' X' hQ => ?_
  obtain ⟨rfl, rfl, hh⟩ := hQ
  rw [hrm.1, hrm.2, List.append_nil] at X'
  exact k T' X' hh
/-- a pure instance method -/
theorem ow_callVP {K : String} {index : Nat} {y : MethodName} {by' : ByteArray} {mx : Nat} {rt : Option FieldType} {rm : Room} {v : Value} {stk argsL rest : List Value} {ps : List FieldType} {pr : Option FieldType} {a : Addr}
    (C : OwC p Z s m meth c own nm bytes maxL ret) (X : Stand p l e R s m args below meth c T locs cells slots) (eT : T.heap = h)
    (w1 : (Jvm.Cond.methodLink own index y).before a0 Z = true) (w2 : (Jvm.Cond.declares y).before a0 Z = true) (w5 : (Jvm.Cond.selects K y y).before a0 Z = true) (hK : K = y.cls) (w6 : (Jvm.Cond.instanceMethod y).before a0 Z = true) (w3 : (Jvm.Cond.initialized y.cls).before a0 Z = true) (w4 : (Jvm.Cond.code y by' mx rt).before a0 Z = true)
    (hy : y.cls ≠ "java/lang/invoke/MethodHandle" ∧ y.cls ≠ "java/lang/invoke/VarHandle") (E : Exa Z h a K)
    (M : OwCon l y by' mx rt rm Z (.ref a :: argsL).toArray h (OwP (some v) h)) (hrm : rm.cells = 0 ∧ rm.slots = 0) (hds : parseMethodDescriptor y.desc = some ⟨ps, pr⟩) (hln : argsL.length = ps.length) (hst : stk = argsL.reverse ++ .ref a :: rest) (hsz : Ls.size = maxL)
    (hd : decode bytes pc = .ok (.invokevirtual index, 3)) (hfr : rm.frames + 1 ≤ R.frames) (hlo : owCat rest + (mx + 11) + rm.locals ≤ R.locals) (hcl : cells ≤ R.cells) (hsl : slots ≤ R.slots) (hp : pc + 3 = pc')
    (k : ∀ T', Stand p l e R s m args below meth c T' locs cells slots → T'.heap = h → OwF p e below D T' (mkF m pc' Ls (v :: rest))) : OwF p e below D T (mkF m pc Ls stk) := by
  refine ow_callV C X eT w1 w2 w5 hK w6 w3 w4 hy E M hds hln hst hsz hd hfr hlo (by rw [hrm.1]; exact hcl) (by rw [hrm.2]; exact hsl) hp fun T' v' L' X' hQ => ?_
  obtain ⟨rfl, rfl, hh⟩ := hQ
  rw [hrm.1, hrm.2, List.append_nil] at X'
  exact k T' X' hh
/-- a constructor that leaves all as it is -/
theorem ow_callNP {index : Nat} {y : MethodName} {by' : ByteArray} {mx : Nat} {rm : Room} {stk argsL rest : List Value} {ps : List FieldType} {pr : Option FieldType} {a : Addr}
    (C : OwC p Z s m meth c own nm bytes maxL ret) (X : Stand p l e R s m args below meth c T locs cells slots) (eT : T.heap = h) (hni : y.name = "<init>")
    (w1 : (Jvm.Cond.methodLink own index y).before a0 Z = true) (w2 : (Jvm.Cond.instanceMethod y).before a0 Z = true) (w3 : (Jvm.Cond.initialized y.cls).before a0 Z = true) (w4 : (Jvm.Cond.code y by' mx none).before a0 Z = true) (hy : y.cls ≠ "java/lang/invoke/MethodHandle" ∧ y.cls ≠ "java/lang/invoke/VarHandle")
    (M : OwCon l y by' mx none rm Z (.ref a :: argsL).toArray h (OwP none h)) (hrm : rm.cells = 0 ∧ rm.slots = 0) (hds : parseMethodDescriptor y.desc = some ⟨ps, pr⟩) (hln : argsL.length = ps.length) (hst : stk = argsL.reverse ++ .ref a :: rest) (hsz : Ls.size = maxL)
    (hd : decode bytes pc = .ok (.invokespecial index, 3)) (hfr : rm.frames + 1 ≤ R.frames) (hlo : owCat rest + (mx + 11) + rm.locals ≤ R.locals) (hcl : cells ≤ R.cells) (hsl : slots ≤ R.slots) (hp : pc + 3 = pc')
    (k : ∀ T', Stand p l e R s m args below meth c T' locs cells slots → T'.heap = h → OwF p e below D T' (mkF m pc' Ls rest)) : OwF p e below D T (mkF m pc Ls stk) := by
  refine ow_callN C X eT hni w1 w2 w3 w4 hy M hds hln hst hsz hd hfr hlo (by rw [hrm.1]; exact hcl) (by rw [hrm.2]; exact hsl) hp fun T' v' L' X' hQ => ?_
  obtain ⟨rfl, rfl, hh⟩ := hQ
  rw [hrm.1, hrm.2, List.append_nil] at X'
  exact k T' X' hh
end OwnObj
section OwnArr
variable {p : Program} {l : Launch} {e : Env} {R : Room} {s : State} {m : MethodId} {args : Array Value} {below : List Frame} {meth : Method} {c : Code} {T : State} {locs : List Loc} {cells slots : Nat} {Z : State} {a0 : Array Value} {h h' : Heap}
variable {own nm : String} {bytes : ByteArray} {maxL : Nat} {ret : Option FieldType} {D : State → Outcome → Prop} {pc pc' pcT : Nat} {Ls Ls' : Array Slot} {r : List Value}
variable {a b : Addr} {ty : FieldType} {n i : Nat} {f g : Nat → Value} {v : Value} {sl : Nat} {ws : List Addr} {K : String} {kk : Nat}
/-- an array of n places, place j holds f j -/
def OwA (Z : State) (h : Heap) (a : Addr) (ty : FieldType) (n : Nat) (f : Nat → Value) : Prop := ∃ c : Cell, Arr Z h a c ty ∧ c.slots.size = n ∧ ∀ j, j < n → c.slots[j]? = some (f j)
theorem OwA.lt (A : OwA Z h a ty n f) : a < h.size := by obtain ⟨c, A, -⟩ := A; exact A.lt
theorem OwA.ext (A : OwA Z h a ty n f) (E : Ext h h') : OwA Z h' a ty n f := by obtain ⟨c, A, r⟩ := A; exact ⟨c, A.ext E, r⟩
theorem OwA.other (A : OwA Z h b ty n f) (W : Wr h h' a sl v) (q : b ≠ a) : OwA Z h' b ty n f := by obtain ⟨c, A, r⟩ := A; exact ⟨c, A.other W q, r⟩
theorem OwA.keep (A : OwA Z h a ty n f) (K : Keep h h' ws) (q : a ∉ ws) : OwA Z h' a ty n f := by obtain ⟨c, A, r⟩ := A; exact ⟨c, ⟨K.2.1 a c A.1 q, A.2⟩, r⟩
theorem OwA.congr (A : OwA Z h a ty n f) (q : ∀ j, j < n → f j = g j) : OwA Z h a ty n g := by obtain ⟨c, A, S, H⟩ := A; exact ⟨c, A, S, fun j hj => by rw [← q j hj]; exact H j hj⟩
theorem OwA.set (A : OwA Z h a ty n f) (W : Wr h h' a i v) : OwA Z h' a ty n (fun j => if j = i then v else f j) := by
  obtain ⟨c, A, S, H⟩ := A
  refine ⟨c.setSlot i v, A.same W, by rw [sz_set]; exact S, fun j hj => ?_⟩
  show (c.slots.setIfInBounds i v)[j]? = some (if j = i then v else f j)
  by_cases q : j = i
  · subst q
    rw [if_pos rfl, Array.getElem?_setIfInBounds_self_of_lt (by omega)]
  · rw [if_neg q, Array.getElem?_setIfInBounds_ne (fun w => q w.symm)]; exact H j hj
theorem OwA.new {k : ClassId} {z : Int32} (A : Arr Z h a (newA k ty z) ty) : OwA Z h a ty z.toNatClampNeg (fun _ => defaultValue ty) := by
  refine ⟨_, A, sz_new _ _ _, fun j hj => ?_⟩
  show (Array.replicate z.toNatClampNeg (defaultValue ty))[j]? = _
  rw [Array.getElem?_replicate, if_pos hj]
theorem OwA.ne (A : OwA Z h b ty n f) (E : Exa Z h a K) (wi : (Jvm.Cond.instantiable K kk).before a0 Z = true) : a ≠ b := by obtain ⟨c, A, -⟩ := A; exact ne_arr E wi A
theorem ow_newarr {aty : ArrayType} {z : Int32} {N cap : Nat} (C : OwC p Z s m meth c own nm bytes maxL ret) (X : Stand p l e R s m args below meth c T locs cells slots) (eT : T.heap = h) (w : (Jvm.Cond.arrayClass (newarray.typeOf aty)).before a0 Z = true) (hd : decode bytes pc = .ok (.newarray aty, 2))
    (hn : ¬ z < 0) (hN : z.toNatClampNeg = N) (hcap : N ≤ cap) (hb8 : cap * 8 ≤ 536870912) (hc : cells + 1 ≤ R.cells) (hl : slots + cap ≤ R.slots) (hp : pc + 2 = pc')
    (k : ∀ T' h' a, a = h.size → Stand p l e R s m args below meth c T' locs (cells + 1) (slots + cap) → T'.heap = h' → Ext h h' → OwA Z h' a (newarray.typeOf aty) N (fun _ => defaultValue (newarray.typeOf aty)) → OwF p e below D T' (mkF m pc' Ls (.ref a :: r))) : OwF p e below D T (mkF m pc Ls (.int z :: r)) := by
  subst hp; subst hN
  obtain ⟨T', h', cA, X', e', E', A', st⟩ := newP X C.1 C.2.2.2.2.2.2.2 w eT (g := mkF m pc Ls (.int z :: r)) rfl (hb C.2.1 hd) rfl hn hcap hb8 hc hl
  exact OwF.st st (k T' h' _ rfl X' e' E' (OwA.new A'))
theorem ow_arraylength {z : Int32} (C : OwC p Z s m meth c own nm bytes maxL ret) (X : Stand p l e R s m args below meth c T locs cells slots) (eT : T.heap = h) (A : OwA Z h a ty n f) (hz : n.toInt32 = z) (hd : decode bytes pc = .ok (.arraylength, 1)) (hp : pc + 1 = pc')
    (k : OwF p e below D T (mkF m pc' Ls (.int z :: r))) : OwF p e below D T (mkF m pc Ls (.ref a :: r)) := by
  subst hp; subst hz
  obtain ⟨cl, A, S, -⟩ := A
  subst S
  exact OwF.st (fun t q => X.arraylength C.1 (by rw [eT]; exact A.1) (State.isArrayOf_alike C.2.2.2.2.2.2.2.alike A.2.1) (g := mkF m pc Ls (.ref a :: r)) rfl rfl (hb C.2.1 hd) t q) k
theorem ow_iaload {z : Int32} (C : OwC p Z s m meth c own nm bytes maxL ret) (X : Stand p l e R s m args below meth c T locs cells slots) (eT : T.heap = h) (A : OwA Z h a .int n f) (h0 : ¬ z < 0) (hj : z.toNatClampNeg = i) (hlt : i < n) (hv : f i = v) (hd : decode bytes pc = .ok (.iaload, 1)) (hp : pc + 1 = pc')
    (k : OwF p e below D T (mkF m pc' Ls (v :: r))) : OwF p e below D T (mkF m pc Ls (.int z :: .ref a :: r)) := by
  subst hp; subst hj; subst hv
  obtain ⟨cl, A, S, H⟩ := A
  exact OwF.st (fun t q => X.iaload C.1 (by rw [eT]; exact A.1) (State.isArrayOf_alike C.2.2.2.2.2.2.2.alike A.2.1) A.2.2 (fun w => w.elim h0 (fun w => by omega)) (H _ hlt) (g := mkF m pc Ls (.int z :: .ref a :: r)) rfl rfl (hb C.2.1 hd) t q) k
theorem ow_laload {z : Int32} (C : OwC p Z s m meth c own nm bytes maxL ret) (X : Stand p l e R s m args below meth c T locs cells slots) (eT : T.heap = h) (A : OwA Z h a .long n f) (h0 : ¬ z < 0) (hj : z.toNatClampNeg = i) (hlt : i < n) (hv : f i = v) (hd : decode bytes pc = .ok (.laload, 1)) (hp : pc + 1 = pc')
    (k : OwF p e below D T (mkF m pc' Ls (v :: r))) : OwF p e below D T (mkF m pc Ls (.int z :: .ref a :: r)) := by
  subst hp; subst hj; subst hv
  obtain ⟨cl, A, S, H⟩ := A
  exact OwF.st (fun t q => X.laload C.1 (by rw [eT]; exact A.1) (State.isArrayOf_alike C.2.2.2.2.2.2.2.alike A.2.1) A.2.2 (fun w => w.elim h0 (fun w => by omega)) (H _ hlt) (g := mkF m pc Ls (.int z :: .ref a :: r)) rfl rfl (hb C.2.1 hd) t q) k
theorem ow_caload {z : Int32} (C : OwC p Z s m meth c own nm bytes maxL ret) (X : Stand p l e R s m args below meth c T locs cells slots) (eT : T.heap = h) (A : OwA Z h a .char n f) (h0 : ¬ z < 0) (hj : z.toNatClampNeg = i) (hlt : i < n) (hv : f i = v) (hd : decode bytes pc = .ok (.caload, 1)) (hp : pc + 1 = pc')
    (k : OwF p e below D T (mkF m pc' Ls (v :: r))) : OwF p e below D T (mkF m pc Ls (.int z :: .ref a :: r)) := by
  subst hp; subst hj; subst hv
  obtain ⟨cl, A, S, H⟩ := A
  exact OwF.st (fun t q => X.caload C.1 (by rw [eT]; exact A.1) (State.isArrayOf_alike C.2.2.2.2.2.2.2.alike A.2.1) A.2.2 (fun w => w.elim h0 (fun w => by omega)) (H _ hlt) (g := mkF m pc Ls (.int z :: .ref a :: r)) rfl rfl (hb C.2.1 hd) t q) k
theorem ow_saload {z : Int32} (C : OwC p Z s m meth c own nm bytes maxL ret) (X : Stand p l e R s m args below meth c T locs cells slots) (eT : T.heap = h) (A : OwA Z h a .short n f) (h0 : ¬ z < 0) (hj : z.toNatClampNeg = i) (hlt : i < n) (hv : f i = v) (hd : decode bytes pc = .ok (.saload, 1)) (hp : pc + 1 = pc')
    (k : OwF p e below D T (mkF m pc' Ls (v :: r))) : OwF p e below D T (mkF m pc Ls (.int z :: .ref a :: r)) := by
  subst hp; subst hj; subst hv
  obtain ⟨cl, A, S, H⟩ := A
  exact OwF.st (fun t q => X.saload C.1 (by rw [eT]; exact A.1) (State.isArrayOf_alike C.2.2.2.2.2.2.2.alike A.2.1) A.2.2 (fun w => w.elim h0 (fun w => by omega)) (H _ hlt) (g := mkF m pc Ls (.int z :: .ref a :: r)) rfl rfl (hb C.2.1 hd) t q) k
theorem ow_aaload {z : Int32} (C : OwC p Z s m meth c own nm bytes maxL ret) (X : Stand p l e R s m args below meth c T locs cells slots) (eT : T.heap = h) (A : OwA Z h a ty n f) (hty : ty.isReference = true) (h0 : ¬ z < 0) (hj : z.toNatClampNeg = i) (hlt : i < n) (hv : f i = v) (hd : decode bytes pc = .ok (.aaload, 1)) (hp : pc + 1 = pc')
    (k : OwF p e below D T (mkF m pc' Ls (v :: r))) : OwF p e below D T (mkF m pc Ls (.int z :: .ref a :: r)) := by
  subst hp; subst hj; subst hv
  obtain ⟨cl, A, S, H⟩ := A
  exact OwF.st (fun t q => X.aaload C.1 (by rw [eT]; exact A.1) (State.isArrayOf_alike C.2.2.2.2.2.2.2.alike A.2.1) hty A.2.2 (fun w => w.elim h0 (fun w => by omega)) (H _ hlt) (g := mkF m pc Ls (.int z :: .ref a :: r)) rfl rfl (hb C.2.1 hd) t q) k
theorem ow_baload {z : Int32} (C : OwC p Z s m meth c own nm bytes maxL ret) (X : Stand p l e R s m args below meth c T locs cells slots) (eT : T.heap = h) (A : OwA Z h a .byte n f) (h0 : ¬ z < 0) (hj : z.toNatClampNeg = i) (hlt : i < n) (hv : f i = v) (hd : decode bytes pc = .ok (.baload, 1)) (hp : pc + 1 = pc')
    (k : OwF p e below D T (mkF m pc' Ls (v :: r))) : OwF p e below D T (mkF m pc Ls (.int z :: .ref a :: r)) := by
  subst hp; subst hj; subst hv
  obtain ⟨cl, A, S, H⟩ := A
  exact OwF.st (fun t q => X.baloadBytes C.1 (by rw [eT]; exact A.1) (State.isArrayOf_alike C.2.2.2.2.2.2.2.alike A.2.1) A.2.2 (fun w => w.elim h0 (fun w => by omega)) (H _ hlt) (g := mkF m pc Ls (.int z :: .ref a :: r)) rfl rfl (hb C.2.1 hd) t q) k
theorem ow_iastore {z : Int32} {x : Int32} (C : OwC p Z s m meth c own nm bytes maxL ret) (X : Stand p l e R s m args below meth c T locs cells slots) (eT : T.heap = h) (A : OwA Z h a .int n f) (h0 : ¬ z < 0) (hj : z.toNatClampNeg = i) (hlt : i < n) (hd : decode bytes pc = .ok (.iastore, 1)) (hp : pc + 1 = pc')
    (k : ∀ T' h', Stand p l e R s m args below meth c T' (locs ++ [⟨a, i⟩]) cells slots → T'.heap = h' → Wr h h' a i (.int x) → OwF p e below D T' (mkF m pc' Ls r)) : OwF p e below D T (mkF m pc Ls (.int x :: .int z :: .ref a :: r)) := by
  subst hp; subst hj
  obtain ⟨cl, A, S, H⟩ := A
  obtain ⟨T', h', X', e', W', st⟩ := stI X C.1 C.2.2.2.2.2.2.2 eT A (j := z) (x := x) (fun w => w.elim h0 (fun w => by omega)) (g := mkF m pc Ls (.int x :: .int z :: .ref a :: r)) rfl rfl (hb C.2.1 hd)
  exact OwF.st st (k T' h' X' e' W')
theorem ow_lastore {z : Int32} {x : Int64} (C : OwC p Z s m meth c own nm bytes maxL ret) (X : Stand p l e R s m args below meth c T locs cells slots) (eT : T.heap = h) (A : OwA Z h a .long n f) (h0 : ¬ z < 0) (hj : z.toNatClampNeg = i) (hlt : i < n) (hd : decode bytes pc = .ok (.lastore, 1)) (hp : pc + 1 = pc')
    (k : ∀ T' h', Stand p l e R s m args below meth c T' (locs ++ [⟨a, i⟩]) cells slots → T'.heap = h' → Wr h h' a i (.long x) → OwF p e below D T' (mkF m pc' Ls r)) : OwF p e below D T (mkF m pc Ls (.long x :: .int z :: .ref a :: r)) := by
  subst hp; subst hj
  obtain ⟨cl, A, S, H⟩ := A
  obtain ⟨T', h', X', e', W', st⟩ := stJ X C.1 C.2.2.2.2.2.2.2 eT A (j := z) (x := x) (fun w => w.elim h0 (fun w => by omega)) (g := mkF m pc Ls (.long x :: .int z :: .ref a :: r)) rfl rfl (hb C.2.1 hd)
  exact OwF.st st (k T' h' X' e' W')
theorem ow_castore {z : Int32} {x : Int32} (C : OwC p Z s m meth c own nm bytes maxL ret) (X : Stand p l e R s m args below meth c T locs cells slots) (eT : T.heap = h) (A : OwA Z h a .char n f) (h0 : ¬ z < 0) (hj : z.toNatClampNeg = i) (hlt : i < n) (hd : decode bytes pc = .ok (.castore, 1)) (hp : pc + 1 = pc')
    (k : ∀ T' h', Stand p l e R s m args below meth c T' (locs ++ [⟨a, i⟩]) cells slots → T'.heap = h' → Wr h h' a i (.int (nar .char x)) → OwF p e below D T' (mkF m pc' Ls r)) : OwF p e below D T (mkF m pc Ls (.int x :: .int z :: .ref a :: r)) := by
  subst hp; subst hj
  obtain ⟨cl, A, S, H⟩ := A
  obtain ⟨T', h', X', e', W', st⟩ := stC X C.1 C.2.2.2.2.2.2.2 eT A (j := z) (x := x) (fun w => w.elim h0 (fun w => by omega)) (g := mkF m pc Ls (.int x :: .int z :: .ref a :: r)) rfl rfl (hb C.2.1 hd)
  exact OwF.st st (k T' h' X' e' W')
theorem ow_sastore {z : Int32} {x : Int32} (C : OwC p Z s m meth c own nm bytes maxL ret) (X : Stand p l e R s m args below meth c T locs cells slots) (eT : T.heap = h) (A : OwA Z h a .short n f) (h0 : ¬ z < 0) (hj : z.toNatClampNeg = i) (hlt : i < n) (hd : decode bytes pc = .ok (.sastore, 1)) (hp : pc + 1 = pc')
    (k : ∀ T' h', Stand p l e R s m args below meth c T' (locs ++ [⟨a, i⟩]) cells slots → T'.heap = h' → Wr h h' a i (.int (nar .short x)) → OwF p e below D T' (mkF m pc' Ls r)) : OwF p e below D T (mkF m pc Ls (.int x :: .int z :: .ref a :: r)) := by
  subst hp; subst hj
  obtain ⟨cl, A, S, H⟩ := A
  obtain ⟨T', h', X', e', W', st⟩ := stS X C.1 C.2.2.2.2.2.2.2 eT A (j := z) (x := x) (fun w => w.elim h0 (fun w => by omega)) (g := mkF m pc Ls (.int x :: .int z :: .ref a :: r)) rfl rfl (hb C.2.1 hd)
  exact OwF.st st (k T' h' X' e' W')
theorem ow_bastore {z : Int32} {x : Int32} (C : OwC p Z s m meth c own nm bytes maxL ret) (X : Stand p l e R s m args below meth c T locs cells slots) (eT : T.heap = h) (A : OwA Z h a .byte n f) (h0 : ¬ z < 0) (hj : z.toNatClampNeg = i) (hlt : i < n) (hd : decode bytes pc = .ok (.bastore, 1)) (hp : pc + 1 = pc')
    (k : ∀ T' h', Stand p l e R s m args below meth c T' (locs ++ [⟨a, i⟩]) cells slots → T'.heap = h' → Wr h h' a i (.int (nar .byte x)) → OwF p e below D T' (mkF m pc' Ls r)) : OwF p e below D T (mkF m pc Ls (.int x :: .int z :: .ref a :: r)) := by
  subst hp; subst hj
  obtain ⟨cl, A, S, H⟩ := A
  obtain ⟨T', h', X', e', W', st⟩ := stB X C.1 C.2.2.2.2.2.2.2 eT A (j := z) (x := x) (fun w => w.elim h0 (fun w => by omega)) (g := mkF m pc Ls (.int x :: .int z :: .ref a :: r)) rfl rfl (hb C.2.1 hd)
  exact OwF.st st (k T' h' X' e' W')
end OwnArr
theorem own_nm {a b : Addr} (h : a ≠ b) : a ∉ [b] := fun q => h (List.mem_singleton.mp q)
theorem d1_0 : decode prog_31_method_1_code 0 = .ok (.aload_n 0, 1) := by decide +kernel
theorem d1_1 : decode prog_31_method_1_code 1 = .ok (.invokespecial 1, 3) := by decide +kernel
theorem d1_4 : decode prog_31_method_1_code 4 = .ok (.aload_n 0, 1) := by decide +kernel
theorem d1_5 : decode prog_31_method_1_code 5 = .ok (.lload_n 1, 1) := by decide +kernel
theorem d1_6 : decode prog_31_method_1_code 6 = .ok (.putfield 7, 3) := by decide +kernel
theorem d1_9 : decode prog_31_method_1_code 9 = .ok (.aload_n 0, 1) := by decide +kernel
theorem d1_10 : decode prog_31_method_1_code 10 = .ok (.lload_n 3, 1) := by decide +kernel
theorem d1_11 : decode prog_31_method_1_code 11 = .ok (.putfield 13, 3) := by decide +kernel
theorem d1_14 : decode prog_31_method_1_code 14 = .ok (.return_, 1) := by decide +kernel
theorem pn_1 : plainFor (⟨"com/example/offset/offset/server/Delay", "<init>", "(JJ)V"⟩ : MethodName) = true := by first | exact plainFor_of_name (by first | (simp [plainName, overriddenIn]; done) | decide +kernel) | decide +kernel
theorem pd_0 : parseMethodDescriptor "(JJ)V" = some ⟨[.long, .long], none⟩ := by decide +kernel
set_option maxRecDepth 65536 in
set_option maxHeartbeats 40000000 in
theorem rm_init (l : Launch) (Z : State) (a0 : Array Value) (hw : ∀ d ∈ tables_1, d.before a0 Z = true) (o0 : Addr) (q1 : Int64) (q2 : Int64) (u_dueAt_o0 : Value) (u_id_o0 : Value) (h0 : Heap) (n0 : Nat) (E_o0 : Exa Z h0 o0 "com/example/offset/offset/server/Delay") (g_o0 : n0 ≤ o0) (F_dueAt_o0 : Fld Z h0 o0 "com/example/offset/offset/server/Delay" "dueAt" "J" u_dueAt_o0) (F_id_o0 : Fld Z h0 o0 "com/example/offset/offset/server/Delay" "id" "J" u_id_o0) :
    OwCon l (⟨"com/example/offset/offset/server/Delay", "<init>", "(JJ)V"⟩ : MethodName) prog_31_method_1_code 5 none ({ frames := 1, cells := 0, slots := 0, locals := 12 } : Room) Z #[(.ref o0), (.long q1), (.long q2)] h0 (fun v h L => v = none ∧ Fr n0 L ∧ Keep h0 h [o0] ∧ Exa Z h o0 "com/example/offset/offset/server/Delay" ∧ Fld Z h o0 "com/example/offset/offset/server/Delay" "dueAt" "J" (.long q1) ∧ Fld Z h o0 "com/example/offset/offset/server/Delay" "id" "J" (.long q2)) := by
  refine OwCon.of pn_1 (Ls := #[.val (.ref o0), .val (.long q1), .second, .val (.long q2), .second]) (fun m => by first | (simp [entryFrame, mkF, argsToLocals, Value.category]; done) | rfl) ?_
  intro p e s m below meth c s₁ C X0 e0
  refine ow_aloadN C X0 d1_0 rfl rfl (pc' := 1) rfl ?_
  refine ow_initO C X0 e0 (hw _ (List.mem_of_getElem? (i := 6) rfl)) (hw _ (List.mem_of_getElem? (i := 7) rfl)) (hw _ (List.mem_of_getElem? (i := 8) rfl)) rfl d1_1 (Nat.le_of_ble_eq_true rfl) (Nat.le_of_ble_eq_true rfl) (pc' := 4) rfl (fun T1 X1 e1 => ?_)
  refine ow_aloadN C X1 d1_4 rfl rfl (pc' := 5) rfl ?_
  refine ow_lloadN C X1 d1_5 rfl (pc' := 6) rfl ?_
  refine ow_putF C X1 e1 (hw _ (List.mem_of_getElem? (i := 9) rfl)) F_dueAt_o0 E_o0 (Or.inr ⟨(hw _ (List.mem_of_getElem? (i := 10) rfl)), rfl, rfl⟩) (hw _ (List.mem_of_getElem? (i := 1) rfl)) (ty := .long) (by decide) rfl rfl d1_6 (pc' := 9) rfl (fun T2 h2 X2 e2 W2 => ?_)
  have E2_0 := E_o0.wr W2
  have F2_1 := F_dueAt_o0.same W2
  have F2_2 := F_id_o0.other W2 (Or.inr (slot_ne (Or.inr (hw _ (List.mem_of_getElem? (i := 12) rfl))) (Or.inr (hw _ (List.mem_of_getElem? (i := 10) rfl))) (by decide) (t := .long) (t' := .long) (by decide) (by decide)))
  have K2 : Keep h0 h2 [o0] := (Keep.refl h0 [o0]).wr W2 (Or.inl (List.mem_singleton.mpr rfl))
  have N2 := Fr.snoc X2 (Fr.nil n0) g_o0
  refine ow_aloadN C X2 d1_9 rfl rfl (pc' := 10) rfl ?_
  refine ow_lloadN C X2 d1_10 rfl (pc' := 11) rfl ?_
  refine ow_putF C X2 e2 (hw _ (List.mem_of_getElem? (i := 11) rfl)) F2_2 E2_0 (Or.inr ⟨(hw _ (List.mem_of_getElem? (i := 12) rfl)), rfl, rfl⟩) (hw _ (List.mem_of_getElem? (i := 1) rfl)) (ty := .long) (by decide) rfl rfl d1_11 (pc' := 14) rfl (fun T3 h3 X3 e3 W3 => ?_)
  have E3_0 := E2_0.wr W3
  have F3_1 := F2_1.other W3 (Or.inr (slot_ne (Or.inr (hw _ (List.mem_of_getElem? (i := 10) rfl))) (Or.inr (hw _ (List.mem_of_getElem? (i := 12) rfl))) (by decide) (t := .long) (t' := .long) (by decide) (by decide)))
  have F3_2 := F2_2.same W3
  have K3 : Keep h0 h3 [o0] := K2.wr W3 (Or.inl (List.mem_singleton.mpr rfl))
  have N3 := Fr.snoc X3 N2 g_o0
  refine ow_retV C X3 d1_14 (Nat.le_of_ble_eq_true rfl) (Nat.le_of_ble_eq_true rfl) ?_
  rw [e3]
  exact ⟨rfl, N3, K3, E3_0, F3_1, F3_2⟩
theorem d5_0 : decode jdk_35_method_42_code 0 = .ok (.lload_n 0, 1) := by decide +kernel
theorem d5_1 : decode jdk_35_method_42_code 1 = .ok (.lload_n 2, 1) := by decide +kernel
theorem d5_2 : decode jdk_35_method_42_code 2 = .ok (.lcmp, 1) := by decide +kernel
theorem d5_3 : decode jdk_35_method_42_code 3 = .ok (.ifCond .ge 7, 3) := by decide +kernel
theorem d5_6 : decode jdk_35_method_42_code 6 = .ok (.iconst (-1), 1) := by decide +kernel
theorem d5_7 : decode jdk_35_method_42_code 7 = .ok (.goto 14, 3) := by decide +kernel
theorem d5_10 : decode jdk_35_method_42_code 10 = .ok (.lload_n 0, 1) := by decide +kernel
theorem d5_11 : decode jdk_35_method_42_code 11 = .ok (.lload_n 2, 1) := by decide +kernel
theorem d5_12 : decode jdk_35_method_42_code 12 = .ok (.lcmp, 1) := by decide +kernel
theorem d5_13 : decode jdk_35_method_42_code 13 = .ok (.ifCond .ne 7, 3) := by decide +kernel
theorem d5_16 : decode jdk_35_method_42_code 16 = .ok (.iconst 0, 1) := by decide +kernel
theorem d5_17 : decode jdk_35_method_42_code 17 = .ok (.goto 4, 3) := by decide +kernel
theorem d5_20 : decode jdk_35_method_42_code 20 = .ok (.iconst 1, 1) := by decide +kernel
theorem d5_21 : decode jdk_35_method_42_code 21 = .ok (.ireturn, 1) := by decide +kernel
theorem pn_5 : plainFor (⟨"java/lang/Long", "compare", "(JJ)I"⟩ : MethodName) = true := by first | exact plainFor_of_name (by first | (simp [plainName, overriddenIn]; done) | decide +kernel) | decide +kernel
theorem pd_1 : parseMethodDescriptor "(JJ)I" = some ⟨[.long, .long], (some .int)⟩ := by decide +kernel
def own_lcmp (q0 : Int64) (q1 : Int64) : Int32 := if q0 < q1 then (-1 : Int32) else if q0 = q1 then (0 : Int32) else (1 : Int32)
set_option maxRecDepth 65536 in
set_option maxHeartbeats 40000000 in
theorem rm_lcmp (l : Launch) (Z : State) (a0 : Array Value) (hw : ∀ d ∈ tables_1, d.before a0 Z = true) (q0 : Int64) (q1 : Int64)  (h0 : Heap)   :
    OwCon l (⟨"java/lang/Long", "compare", "(JJ)I"⟩ : MethodName) jdk_35_method_42_code 4 (some .int) ({ frames := 0, cells := 0, slots := 0, locals := 0 } : Room) Z #[(.long q0), (.long q1)] h0 (OwP (some (.int (own_lcmp q0 q1))) h0) := by
  refine OwCon.of pn_5 (Ls := #[.val (.long q0), .second, .val (.long q1), .second]) (fun m => by first | (simp [entryFrame, mkF, argsToLocals, Value.category]; done) | rfl) ?_
  intro p e s m below meth c s₁ C X0 e0
  refine ow_lloadN C X0 d5_0 rfl (pc' := 1) rfl ?_
  refine ow_lloadN C X0 d5_1 rfl (pc' := 2) rfl ?_
  refine ow_lcmp C X0 d5_2 (pc' := 3) rfl ?_
  refine ow_lif_ge C X0 d5_3 (pcT := 10) (pc' := 6) (by decide) (by decide) rfl (fun b3 => ?_) (fun b3 => ?_)
  · refine ow_lloadN C X0 d5_10 rfl (pc' := 11) rfl ?_
    refine ow_lloadN C X0 d5_11 rfl (pc' := 12) rfl ?_
    refine ow_lcmp C X0 d5_12 (pc' := 13) rfl ?_
    refine ow_lif_ne C X0 d5_13 (pcT := 20) (pc' := 16) (by decide) (by decide) rfl (fun b13 => ?_) (fun b13 => ?_)
    · refine ow_iconst (1 : Int32) C X0 d5_20 (by decide) (pc' := 21) rfl ?_
      exact ow_retI C X0 d5_21 (Nat.le_of_ble_eq_true rfl) (Nat.le_of_ble_eq_true rfl) ⟨(show some (Value.int (1 : Int32)) = some (Value.int (own_lcmp q0 q1)) from congrArg (fun z => some (Value.int z)) (by unfold own_lcmp; rw [if_neg b3, if_neg b13])), rfl, e0⟩
    · refine ow_iconst (0 : Int32) C X0 d5_16 (by decide) (pc' := 17) rfl ?_
      refine ow_goto C X0 d5_17 (pcT := 21) (by decide) (by decide) ?_
      exact ow_retI C X0 d5_21 (Nat.le_of_ble_eq_true rfl) (Nat.le_of_ble_eq_true rfl) ⟨(show some (Value.int (0 : Int32)) = some (Value.int (own_lcmp q0 q1)) from congrArg (fun z => some (Value.int z)) (by unfold own_lcmp; rw [if_neg b3, if_pos b13])), rfl, e0⟩
  · refine ow_iconst (-1 : Int32) C X0 d5_6 (by decide) (pc' := 7) rfl ?_
    refine ow_goto C X0 d5_7 (pcT := 21) (by decide) (by decide) ?_
    exact ow_retI C X0 d5_21 (Nat.le_of_ble_eq_true rfl) (Nat.le_of_ble_eq_true rfl) ⟨(show some (Value.int (-1 : Int32)) = some (Value.int (own_lcmp q0 q1)) from congrArg (fun z => some (Value.int z)) (by unfold own_lcmp; rw [if_pos b3])), rfl, e0⟩
theorem d4_0 : decode prog_31_method_5_code 0 = .ok (.aload_n 0, 1) := by decide +kernel
theorem d4_1 : decode prog_31_method_5_code 1 = .ok (.getfield 7, 3) := by decide +kernel
theorem d4_4 : decode prog_31_method_5_code 4 = .ok (.aload_n 1, 1) := by decide +kernel
theorem d4_5 : decode prog_31_method_5_code 5 = .ok (.getfield 7, 3) := by decide +kernel
theorem d4_8 : decode prog_31_method_5_code 8 = .ok (.invokestatic 16, 3) := by decide +kernel
theorem d4_11 : decode prog_31_method_5_code 11 = .ok (.istore_n 2, 1) := by decide +kernel
theorem d4_12 : decode prog_31_method_5_code 12 = .ok (.iload_n 2, 1) := by decide +kernel
theorem d4_13 : decode prog_31_method_5_code 13 = .ok (.ifCond .eq 7, 3) := by decide +kernel
theorem d4_16 : decode prog_31_method_5_code 16 = .ok (.iload_n 2, 1) := by decide +kernel
theorem d4_17 : decode prog_31_method_5_code 17 = .ok (.goto 14, 3) := by decide +kernel
theorem d4_20 : decode prog_31_method_5_code 20 = .ok (.aload_n 0, 1) := by decide +kernel
theorem d4_21 : decode prog_31_method_5_code 21 = .ok (.getfield 13, 3) := by decide +kernel
theorem d4_24 : decode prog_31_method_5_code 24 = .ok (.aload_n 1, 1) := by decide +kernel
theorem d4_25 : decode prog_31_method_5_code 25 = .ok (.getfield 13, 3) := by decide +kernel
theorem d4_28 : decode prog_31_method_5_code 28 = .ok (.invokestatic 16, 3) := by decide +kernel
theorem d4_31 : decode prog_31_method_5_code 31 = .ok (.ireturn, 1) := by decide +kernel
theorem pn_4 : plainFor (⟨"com/example/offset/offset/server/Delay", "compareTo", "(Lcom/example/offset/offset/server/Delay;)I"⟩ : MethodName) = true := by first | exact plainFor_of_name (by first | (simp [plainName, overriddenIn]; done) | decide +kernel) | decide +kernel
theorem pd_2 : parseMethodDescriptor "(Lcom/example/offset/offset/server/Delay;)I" = some ⟨[(.object "com/example/offset/offset/server/Delay")], (some .int)⟩ := by decide +kernel
def own_cmp (u_dueAt_o0 : Int64) (u_dueAt_o1 : Int64) (u_id_o0 : Int64) (u_id_o1 : Int64) : Int32 := if (own_lcmp u_dueAt_o0 u_dueAt_o1) = 0 then (own_lcmp u_id_o0 u_id_o1) else (own_lcmp u_dueAt_o0 u_dueAt_o1)
set_option maxRecDepth 65536 in
set_option maxHeartbeats 40000000 in
theorem rm_cmp (l : Launch) (Z : State) (a0 : Array Value) (hw : ∀ d ∈ tables_1, d.before a0 Z = true) (o0 : Addr) (o1 : Addr) (u_dueAt_o0 : Int64) (u_dueAt_o1 : Int64) (u_id_o0 : Int64) (u_id_o1 : Int64) (h0 : Heap)  (F_dueAt_o0 : Fld Z h0 o0 "com/example/offset/offset/server/Delay" "dueAt" "J" (.long u_dueAt_o0)) (F_dueAt_o1 : Fld Z h0 o1 "com/example/offset/offset/server/Delay" "dueAt" "J" (.long u_dueAt_o1)) (F_id_o0 : Fld Z h0 o0 "com/example/offset/offset/server/Delay" "id" "J" (.long u_id_o0)) (F_id_o1 : Fld Z h0 o1 "com/example/offset/offset/server/Delay" "id" "J" (.long u_id_o1)) :
    OwCon l (⟨"com/example/offset/offset/server/Delay", "compareTo", "(Lcom/example/offset/offset/server/Delay;)I"⟩ : MethodName) prog_31_method_5_code 3 (some .int) ({ frames := 1, cells := 0, slots := 0, locals := 15 } : Room) Z #[(.ref o0), (.ref o1)] h0 (OwP (some (.int (own_cmp u_dueAt_o0 u_dueAt_o1 u_id_o0 u_id_o1))) h0) := by
  refine OwCon.of pn_4 (Ls := #[.val (.ref o0), .val (.ref o1), .unset]) (fun m => by first | (simp [entryFrame, mkF, argsToLocals, Value.category]; done) | rfl) ?_
  intro p e s m below meth c s₁ C X0 e0
  refine ow_aloadN C X0 d4_0 rfl rfl (pc' := 1) rfl ?_
  refine ow_getF C X0 e0 (hw _ (List.mem_of_getElem? (i := 9) rfl)) F_dueAt_o0 d4_1 (pc' := 4) rfl (fun T4 X4 e4 => ?_)
  refine ow_aloadN C X4 d4_4 rfl rfl (pc' := 5) rfl ?_
  refine ow_getF C X4 e4 (hw _ (List.mem_of_getElem? (i := 9) rfl)) F_dueAt_o1 d4_5 (pc' := 8) rfl (fun T5 X5 e5 => ?_)
  refine ow_callSP C X5 e5 (hw _ (List.mem_of_getElem? (i := 23) rfl)) (hw _ (List.mem_of_getElem? (i := 24) rfl)) (hw _ (List.mem_of_getElem? (i := 25) rfl)) (hw _ (List.mem_of_getElem? (i := 26) rfl)) (by decide) (rm_lcmp l Z a0 hw u_dueAt_o0 u_dueAt_o1 h0) ⟨rfl, rfl⟩ pd_1 rfl (argsL := [(.long u_dueAt_o0), (.long u_dueAt_o1)]) (rest := []) rfl rfl d4_8 (Nat.le_of_ble_eq_true rfl) (Nat.le_of_ble_eq_true rfl) (Nat.le_of_ble_eq_true rfl) (Nat.le_of_ble_eq_true rfl) (pc' := 11) rfl (fun T6 X6 e6 => ?_)
  refine ow_istoreN C X6 d4_11 (Ls' := #[.val (.ref o0), .val (.ref o1), .val (.int (own_lcmp u_dueAt_o0 u_dueAt_o1))]) rfl (pc' := 12) rfl ?_
  refine ow_iloadN C X6 d4_12 rfl (pc' := 13) rfl ?_
  refine ow_if_eq C X6 d4_13 (pcT := 20) (pc' := 16) (by decide) (by decide) rfl (fun b13 => ?_) (fun b13 => ?_)
  · refine ow_aloadN C X6 d4_20 rfl rfl (pc' := 21) rfl ?_
    refine ow_getF C X6 e6 (hw _ (List.mem_of_getElem? (i := 11) rfl)) F_id_o0 d4_21 (pc' := 24) rfl (fun T7 X7 e7 => ?_)
    refine ow_aloadN C X7 d4_24 rfl rfl (pc' := 25) rfl ?_
    refine ow_getF C X7 e7 (hw _ (List.mem_of_getElem? (i := 11) rfl)) F_id_o1 d4_25 (pc' := 28) rfl (fun T8 X8 e8 => ?_)
    refine ow_callSP C X8 e8 (hw _ (List.mem_of_getElem? (i := 23) rfl)) (hw _ (List.mem_of_getElem? (i := 24) rfl)) (hw _ (List.mem_of_getElem? (i := 25) rfl)) (hw _ (List.mem_of_getElem? (i := 26) rfl)) (by decide) (rm_lcmp l Z a0 hw u_id_o0 u_id_o1 h0) ⟨rfl, rfl⟩ pd_1 rfl (argsL := [(.long u_id_o0), (.long u_id_o1)]) (rest := []) rfl rfl d4_28 (Nat.le_of_ble_eq_true rfl) (Nat.le_of_ble_eq_true rfl) (Nat.le_of_ble_eq_true rfl) (Nat.le_of_ble_eq_true rfl) (pc' := 31) rfl (fun T9 X9 e9 => ?_)
    exact ow_retI C X9 d4_31 (Nat.le_of_ble_eq_true rfl) (Nat.le_of_ble_eq_true rfl) ⟨(show some (Value.int (own_lcmp u_id_o0 u_id_o1)) = some (Value.int (own_cmp u_dueAt_o0 u_dueAt_o1 u_id_o0 u_id_o1)) from congrArg (fun z => some (Value.int z)) (by unfold own_cmp; rw [if_pos b13])), rfl, e9⟩
  · refine ow_iloadN C X6 d4_16 rfl (pc' := 17) rfl ?_
    refine ow_goto C X6 d4_17 (pcT := 31) (by decide) (by decide) ?_
    exact ow_retI C X6 d4_31 (Nat.le_of_ble_eq_true rfl) (Nat.le_of_ble_eq_true rfl) ⟨(show some (Value.int (own_lcmp u_dueAt_o0 u_dueAt_o1)) = some (Value.int (own_cmp u_dueAt_o0 u_dueAt_o1 u_id_o0 u_id_o1)) from congrArg (fun z => some (Value.int z)) (by unfold own_cmp; rw [if_neg b13])), rfl, e6⟩
theorem d3_0 : decode prog_31_method_4_code 0 = .ok (.aload_n 0, 1) := by decide +kernel
theorem d3_1 : decode prog_31_method_4_code 1 = .ok (.getfield 7, 3) := by decide +kernel
theorem d3_4 : decode prog_31_method_4_code 4 = .ok (.lload_n 1, 1) := by decide +kernel
theorem d3_5 : decode prog_31_method_4_code 5 = .ok (.lcmp, 1) := by decide +kernel
theorem d3_6 : decode prog_31_method_4_code 6 = .ok (.ifCond .lt 21, 3) := by decide +kernel
theorem d3_9 : decode prog_31_method_4_code 9 = .ok (.aload_n 0, 1) := by decide +kernel
theorem d3_10 : decode prog_31_method_4_code 10 = .ok (.getfield 7, 3) := by decide +kernel
theorem d3_13 : decode prog_31_method_4_code 13 = .ok (.lload_n 1, 1) := by decide +kernel
theorem d3_14 : decode prog_31_method_4_code 14 = .ok (.lcmp, 1) := by decide +kernel
theorem d3_15 : decode prog_31_method_4_code 15 = .ok (.ifCond .ne 16, 3) := by decide +kernel
theorem d3_18 : decode prog_31_method_4_code 18 = .ok (.aload_n 0, 1) := by decide +kernel
theorem d3_19 : decode prog_31_method_4_code 19 = .ok (.getfield 13, 3) := by decide +kernel
theorem d3_22 : decode prog_31_method_4_code 22 = .ok (.lload_n 3, 1) := by decide +kernel
theorem d3_23 : decode prog_31_method_4_code 23 = .ok (.lcmp, 1) := by decide +kernel
theorem d3_24 : decode prog_31_method_4_code 24 = .ok (.ifCond .ge 7, 3) := by decide +kernel
theorem d3_27 : decode prog_31_method_4_code 27 = .ok (.iconst 1, 1) := by decide +kernel
theorem d3_28 : decode prog_31_method_4_code 28 = .ok (.goto 4, 3) := by decide +kernel
theorem d3_31 : decode prog_31_method_4_code 31 = .ok (.iconst 0, 1) := by decide +kernel
theorem d3_32 : decode prog_31_method_4_code 32 = .ok (.ireturn, 1) := by decide +kernel
theorem pn_3 : plainFor (⟨"com/example/offset/offset/server/Delay", "precedes", "(JJ)Z"⟩ : MethodName) = true := by first | exact plainFor_of_name (by first | (simp [plainName, overriddenIn]; done) | decide +kernel) | decide +kernel
theorem pd_3 : parseMethodDescriptor "(JJ)Z" = some ⟨[.long, .long], (some .boolean)⟩ := by decide +kernel
def own_prec (q1 : Int64) (q2 : Int64) (u_dueAt_o0 : Int64) (u_id_o0 : Int64) : Int32 := if u_dueAt_o0 < q1 then (1 : Int32) else if u_dueAt_o0 = q1 then (if u_id_o0 < q2 then (1 : Int32) else (0 : Int32)) else (0 : Int32)
theorem own_prec_01 (q1 : Int64) (q2 : Int64) (u_dueAt_o0 : Int64) (u_id_o0 : Int64) : own_prec q1 q2 u_dueAt_o0 u_id_o0 = 0 ∨ own_prec q1 q2 u_dueAt_o0 u_id_o0 = 1 := by
  unfold own_prec
  repeat' split
  all_goals first | exact Or.inl rfl | exact Or.inr rfl
set_option maxRecDepth 65536 in
set_option maxHeartbeats 40000000 in
theorem rm_prec (l : Launch) (Z : State) (a0 : Array Value) (hw : ∀ d ∈ tables_1, d.before a0 Z = true) (o0 : Addr) (q1 : Int64) (q2 : Int64) (u_dueAt_o0 : Int64) (u_id_o0 : Int64) (h0 : Heap)  (F_dueAt_o0 : Fld Z h0 o0 "com/example/offset/offset/server/Delay" "dueAt" "J" (.long u_dueAt_o0)) (F_id_o0 : Fld Z h0 o0 "com/example/offset/offset/server/Delay" "id" "J" (.long u_id_o0)) :
    OwCon l (⟨"com/example/offset/offset/server/Delay", "precedes", "(JJ)Z"⟩ : MethodName) prog_31_method_4_code 5 (some .boolean) ({ frames := 0, cells := 0, slots := 0, locals := 0 } : Room) Z #[(.ref o0), (.long q1), (.long q2)] h0 (OwP (some (.int (own_prec q1 q2 u_dueAt_o0 u_id_o0))) h0) := by
  refine OwCon.of pn_3 (Ls := #[.val (.ref o0), .val (.long q1), .second, .val (.long q2), .second]) (fun m => by first | (simp [entryFrame, mkF, argsToLocals, Value.category]; done) | rfl) ?_
  intro p e s m below meth c s₁ C X0 e0
  refine ow_aloadN C X0 d3_0 rfl rfl (pc' := 1) rfl ?_
  refine ow_getF C X0 e0 (hw _ (List.mem_of_getElem? (i := 9) rfl)) F_dueAt_o0 d3_1 (pc' := 4) rfl (fun T10 X10 e10 => ?_)
  refine ow_lloadN C X10 d3_4 rfl (pc' := 5) rfl ?_
  refine ow_lcmp C X10 d3_5 (pc' := 6) rfl ?_
  refine ow_lif_lt C X10 d3_6 (pcT := 27) (pc' := 9) (by decide) (by decide) rfl (fun b6 => ?_) (fun b6 => ?_)
  · refine ow_iconst (1 : Int32) C X10 d3_27 (by decide) (pc' := 28) rfl ?_
    refine ow_goto C X10 d3_28 (pcT := 32) (by decide) (by decide) ?_
    exact ow_retZ C X10 d3_32 (Nat.le_of_ble_eq_true rfl) (Nat.le_of_ble_eq_true rfl) (Or.inr rfl) ⟨(show some (Value.int (1 : Int32)) = some (Value.int (own_prec q1 q2 u_dueAt_o0 u_id_o0)) from congrArg (fun z => some (Value.int z)) (by unfold own_prec; rw [if_pos b6])), rfl, e10⟩
  · refine ow_aloadN C X10 d3_9 rfl rfl (pc' := 10) rfl ?_
    refine ow_getF C X10 e10 (hw _ (List.mem_of_getElem? (i := 9) rfl)) F_dueAt_o0 d3_10 (pc' := 13) rfl (fun T11 X11 e11 => ?_)
    refine ow_lloadN C X11 d3_13 rfl (pc' := 14) rfl ?_
    refine ow_lcmp C X11 d3_14 (pc' := 15) rfl ?_
    refine ow_lif_ne C X11 d3_15 (pcT := 31) (pc' := 18) (by decide) (by decide) rfl (fun b15 => ?_) (fun b15 => ?_)
    · refine ow_iconst (0 : Int32) C X11 d3_31 (by decide) (pc' := 32) rfl ?_
      exact ow_retZ C X11 d3_32 (Nat.le_of_ble_eq_true rfl) (Nat.le_of_ble_eq_true rfl) (Or.inl rfl) ⟨(show some (Value.int (0 : Int32)) = some (Value.int (own_prec q1 q2 u_dueAt_o0 u_id_o0)) from congrArg (fun z => some (Value.int z)) (by unfold own_prec; rw [if_neg b6, if_neg b15])), rfl, e11⟩
    · refine ow_aloadN C X11 d3_18 rfl rfl (pc' := 19) rfl ?_
      refine ow_getF C X11 e11 (hw _ (List.mem_of_getElem? (i := 11) rfl)) F_id_o0 d3_19 (pc' := 22) rfl (fun T12 X12 e12 => ?_)
      refine ow_lloadN C X12 d3_22 rfl (pc' := 23) rfl ?_
      refine ow_lcmp C X12 d3_23 (pc' := 24) rfl ?_
      refine ow_lif_ge C X12 d3_24 (pcT := 31) (pc' := 27) (by decide) (by decide) rfl (fun b24 => ?_) (fun b24 => ?_)
      · refine ow_iconst (0 : Int32) C X12 d3_31 (by decide) (pc' := 32) rfl ?_
        exact ow_retZ C X12 d3_32 (Nat.le_of_ble_eq_true rfl) (Nat.le_of_ble_eq_true rfl) (Or.inl rfl) ⟨(show some (Value.int (0 : Int32)) = some (Value.int (own_prec q1 q2 u_dueAt_o0 u_id_o0)) from congrArg (fun z => some (Value.int z)) (by unfold own_prec; rw [if_neg b6, if_pos b15, if_neg b24])), rfl, e12⟩
      · refine ow_iconst (1 : Int32) C X12 d3_27 (by decide) (pc' := 28) rfl ?_
        refine ow_goto C X12 d3_28 (pcT := 32) (by decide) (by decide) ?_
        exact ow_retZ C X12 d3_32 (Nat.le_of_ble_eq_true rfl) (Nat.le_of_ble_eq_true rfl) (Or.inr rfl) ⟨(show some (Value.int (1 : Int32)) = some (Value.int (own_prec q1 q2 u_dueAt_o0 u_id_o0)) from congrArg (fun z => some (Value.int z)) (by unfold own_prec; rw [if_neg b6, if_pos b15, if_pos b24])), rfl, e12⟩
theorem pn_0 : plainFor (⟨"com/example/offset/offset/server/DelayPrecedesPinLaw", "law", "(JJJJI)Z"⟩ : MethodName) = true := by first | exact plainFor_of_name (by first | (simp [plainName, overriddenIn]; done) | decide +kernel) | decide +kernel
theorem pd_4 : parseMethodDescriptor "(JJJJI)Z" = some ⟨[.long, .long, .long, .long, .int], (some .boolean)⟩ := by decide +kernel
def own_law_j13 (q0 : Int64) (q1 : Int64) (q2 : Int64) (q3 : Int64) (q4 : Int32) : Int64 := if (q4 &&& (1 : Int32)) = 0 then q2 else q0
def own_law_j28 (q0 : Int64) (q1 : Int64) (q2 : Int64) (q3 : Int64) (q4 : Int32) : Int64 := if (q4 &&& (2 : Int32)) = 0 then q3 else q1
def own_law_j102 (q0 : Int64) (q1 : Int64) (q2 : Int64) (q3 : Int64) (q4 : Int32) : Int32 := if q0 = (own_law_j13 q0 q1 q2 q3 q4) then (if q1 = (own_law_j28 q0 q1 q2 q3 q4) then (1 : Int32) else (0 : Int32)) else (0 : Int32)
theorem own_law_j102_01 (q0 : Int64) (q1 : Int64) (q2 : Int64) (q3 : Int64) (q4 : Int32) : own_law_j102 q0 q1 q2 q3 q4 = 0 ∨ own_law_j102 q0 q1 q2 q3 q4 = 1 := by
  unfold own_law_j102
  repeat' split
  all_goals first | exact Or.inl rfl | exact Or.inr rfl
def own_law_j116 (q0 : Int64) (q1 : Int64) (q2 : Int64) (q3 : Int64) (q4 : Int32) : Int32 := if (own_cmp q0 (own_law_j13 q0 q1 q2 q3 q4) q1 (own_law_j28 q0 q1 q2 q3 q4)) < 0 then (1 : Int32) else (0 : Int32)
theorem own_law_j116_01 (q0 : Int64) (q1 : Int64) (q2 : Int64) (q3 : Int64) (q4 : Int32) : own_law_j116 q0 q1 q2 q3 q4 = 0 ∨ own_law_j116 q0 q1 q2 q3 q4 = 1 := by
  unfold own_law_j116
  repeat' split
  all_goals first | exact Or.inl rfl | exact Or.inr rfl
def own_law_j131 (q0 : Int64) (q1 : Int64) (q2 : Int64) (q3 : Int64) (q4 : Int32) : Int32 := if 0 < (own_cmp q0 (own_law_j13 q0 q1 q2 q3 q4) q1 (own_law_j28 q0 q1 q2 q3 q4)) then (1 : Int32) else (0 : Int32)
theorem own_law_j131_01 (q0 : Int64) (q1 : Int64) (q2 : Int64) (q3 : Int64) (q4 : Int32) : own_law_j131 q0 q1 q2 q3 q4 = 0 ∨ own_law_j131 q0 q1 q2 q3 q4 = 1 := by
  unfold own_law_j131
  repeat' split
  all_goals first | exact Or.inl rfl | exact Or.inr rfl
def own_law_j139 (q0 : Int64) (q1 : Int64) (q2 : Int64) (q3 : Int64) (q4 : Int32) : Int32 := if (own_prec (own_law_j13 q0 q1 q2 q3 q4) (own_law_j28 q0 q1 q2 q3 q4) q0 q1) = (own_law_j116 q0 q1 q2 q3 q4) then (if (own_prec q0 q1 (own_law_j13 q0 q1 q2 q3 q4) (own_law_j28 q0 q1 q2 q3 q4)) = (own_law_j131 q0 q1 q2 q3 q4) then (1 : Int32) else (0 : Int32)) else (0 : Int32)
theorem own_law_j139_01 (q0 : Int64) (q1 : Int64) (q2 : Int64) (q3 : Int64) (q4 : Int32) : own_law_j139 q0 q1 q2 q3 q4 = 0 ∨ own_law_j139 q0 q1 q2 q3 q4 = 1 := by
  unfold own_law_j139
  repeat' split
  all_goals first | exact Or.inl rfl | exact Or.inr rfl
def own_law_j168 (q0 : Int64) (q1 : Int64) (q2 : Int64) (q3 : Int64) (q4 : Int32) : Int32 := if (own_prec q0 q1 (own_law_j13 q0 q1 q2 q3 q4) (own_law_j28 q0 q1 q2 q3 q4)) = 0 then (1 : Int32) else (0 : Int32)
theorem own_law_j168_01 (q0 : Int64) (q1 : Int64) (q2 : Int64) (q3 : Int64) (q4 : Int32) : own_law_j168 q0 q1 q2 q3 q4 = 0 ∨ own_law_j168 q0 q1 q2 q3 q4 = 1 := by
  unfold own_law_j168
  repeat' split
  all_goals first | exact Or.inl rfl | exact Or.inr rfl
def own_law_j176 (q0 : Int64) (q1 : Int64) (q2 : Int64) (q3 : Int64) (q4 : Int32) : Int32 := if (own_prec (own_law_j13 q0 q1 q2 q3 q4) (own_law_j28 q0 q1 q2 q3 q4) q0 q1) = 0 then (if (own_law_j102 q0 q1 q2 q3 q4) = (own_law_j168 q0 q1 q2 q3 q4) then (1 : Int32) else (0 : Int32)) else if (own_prec q0 q1 (own_law_j13 q0 q1 q2 q3 q4) (own_law_j28 q0 q1 q2 q3 q4)) = 0 then (if (own_law_j102 q0 q1 q2 q3 q4) = (0 : Int32) then (1 : Int32) else (0 : Int32)) else (0 : Int32)
theorem own_law_j176_01 (q0 : Int64) (q1 : Int64) (q2 : Int64) (q3 : Int64) (q4 : Int32) : own_law_j176 q0 q1 q2 q3 q4 = 0 ∨ own_law_j176 q0 q1 q2 q3 q4 = 1 := by
  unfold own_law_j176
  repeat' split
  all_goals first | exact Or.inl rfl | exact Or.inr rfl
def own_law_j199 (q0 : Int64) (q1 : Int64) (q2 : Int64) (q3 : Int64) (q4 : Int32) : Int32 := if q0 < (own_law_j13 q0 q1 q2 q3 q4) then (1 : Int32) else (0 : Int32)
theorem own_law_j199_01 (q0 : Int64) (q1 : Int64) (q2 : Int64) (q3 : Int64) (q4 : Int32) : own_law_j199 q0 q1 q2 q3 q4 = 0 ∨ own_law_j199 q0 q1 q2 q3 q4 = 1 := by
  unfold own_law_j199
  repeat' split
  all_goals first | exact Or.inl rfl | exact Or.inr rfl
def own_law_j207 (q0 : Int64) (q1 : Int64) (q2 : Int64) (q3 : Int64) (q4 : Int32) : Int32 := if q0 = (own_law_j13 q0 q1 q2 q3 q4) then (1 : Int32) else if (own_prec (own_law_j13 q0 q1 q2 q3 q4) (own_law_j28 q0 q1 q2 q3 q4) q0 q1) = (own_law_j199 q0 q1 q2 q3 q4) then (1 : Int32) else (0 : Int32)
theorem own_law_j207_01 (q0 : Int64) (q1 : Int64) (q2 : Int64) (q3 : Int64) (q4 : Int32) : own_law_j207 q0 q1 q2 q3 q4 = 0 ∨ own_law_j207 q0 q1 q2 q3 q4 = 1 := by
  unfold own_law_j207
  repeat' split
  all_goals first | exact Or.inl rfl | exact Or.inr rfl
def own_law_j230 (q0 : Int64) (q1 : Int64) (q2 : Int64) (q3 : Int64) (q4 : Int32) : Int32 := if q1 < (own_law_j28 q0 q1 q2 q3 q4) then (1 : Int32) else (0 : Int32)
theorem own_law_j230_01 (q0 : Int64) (q1 : Int64) (q2 : Int64) (q3 : Int64) (q4 : Int32) : own_law_j230 q0 q1 q2 q3 q4 = 0 ∨ own_law_j230 q0 q1 q2 q3 q4 = 1 := by
  unfold own_law_j230
  repeat' split
  all_goals first | exact Or.inl rfl | exact Or.inr rfl
def own_law_j238 (q0 : Int64) (q1 : Int64) (q2 : Int64) (q3 : Int64) (q4 : Int32) : Int32 := if q0 = (own_law_j13 q0 q1 q2 q3 q4) then (if (own_prec (own_law_j13 q0 q1 q2 q3 q4) (own_law_j28 q0 q1 q2 q3 q4) q0 q1) = (own_law_j230 q0 q1 q2 q3 q4) then (1 : Int32) else (0 : Int32)) else (1 : Int32)
theorem own_law_j238_01 (q0 : Int64) (q1 : Int64) (q2 : Int64) (q3 : Int64) (q4 : Int32) : own_law_j238 q0 q1 q2 q3 q4 = 0 ∨ own_law_j238 q0 q1 q2 q3 q4 = 1 := by
  unfold own_law_j238
  repeat' split
  all_goals first | exact Or.inl rfl | exact Or.inr rfl
def own_law (q0 : Int64) (q1 : Int64) (q2 : Int64) (q3 : Int64) (q4 : Int32) : Int32 := if (own_law_j139 q0 q1 q2 q3 q4) = 0 then (0 : Int32) else if (own_law_j176 q0 q1 q2 q3 q4) = 0 then (0 : Int32) else if (own_law_j207 q0 q1 q2 q3 q4) = 0 then (0 : Int32) else if (own_law_j238 q0 q1 q2 q3 q4) = 0 then (0 : Int32) else (1 : Int32)
set_option maxRecDepth 65536 in
set_option maxHeartbeats 40000000 in
theorem rm_law (l : Launch) (Z : State) (a0 : Array Value) (hw : ∀ d ∈ tables_1, d.before a0 Z = true) (q0 : Int64) (q1 : Int64) (q2 : Int64) (q3 : Int64) (q4 : Int32) (h0 : Heap) (n0 : Nat) (Z0 : n0 ≤ h0.size) :
    OwCon l (⟨"com/example/offset/offset/server/DelayPrecedesPinLaw", "law", "(JJJJI)Z"⟩ : MethodName) code maxLocals ret room_1 Z #[(.long q0), (.long q1), (.long q2), (.long q3), (.int q4)] h0 (fun v h L => v = some (.int (own_law q0 q1 q2 q3 q4)) ∧ Fr n0 L) := by
  refine OwCon.of pn_0 (Ls := #[.val (.long q0), .second, .val (.long q1), .second, .val (.long q2), .second, .val (.long q3), .second, .val (.int q4), .unset, .unset, .unset, .unset, .unset, .unset, .unset, .unset, .unset, .unset, .unset, .unset, .unset, .unset]) (fun m => by first | (simp [entryFrame, mkF, argsToLocals, Value.category, maxLocals]; done) | rfl) ?_
  intro p e s m below meth c s₁ C X0 e0
  refine ow_iload C X0 at_0 rfl (pc' := 2) rfl ?_
  refine ow_iconst (1 : Int32) C X0 at_2 (by decide) (pc' := 3) rfl ?_
  refine ow_iand C X0 at_3 (pc' := 4) rfl ?_
  refine ow_join X0 e0 (f' := (mkF m 13 #[.val (.long q0), .second, .val (.long q1), .second, .val (.long q2), .second, .val (.long q3), .second, .val (.int q4), .unset, .unset, .unset, .unset, .unset, .unset, .unset, .unset, .unset, .unset, .unset, .unset, .unset, .unset] [(.long (own_law_j13 q0 q1 q2 q3 q4))])) ?_ (fun T13 X13 e13 => ?_)
  · intro D13 jk13
    refine ow_if_eq C X0 at_4 (pcT := 11) (pc' := 7) (by decide) (by decide) rfl (fun b4 => ?_) (fun b4 => ?_)
    · refine ow_lload C X0 at_11 rfl (pc' := 13) rfl ?_
      have jq := jk13 s₁ X0 e0
      rw [show (own_law_j13 q0 q1 q2 q3 q4) = q2 from by unfold own_law_j13; (try rw [if_pos b4]); (try rfl)] at jq
      exact jq
    · refine ow_lloadN C X0 at_7 rfl (pc' := 8) rfl ?_
      refine ow_goto C X0 at_8 (pcT := 13) (by decide) (by decide) ?_
      have jq := jk13 s₁ X0 e0
      rw [show (own_law_j13 q0 q1 q2 q3 q4) = q0 from by unfold own_law_j13; (try rw [if_neg b4]); (try rfl)] at jq
      exact jq
  refine ow_lstore C X13 at_13 (Ls' := #[.val (.long q0), .second, .val (.long q1), .second, .val (.long q2), .second, .val (.long q3), .second, .val (.int q4), .val (.long (own_law_j13 q0 q1 q2 q3 q4)), .second, .unset, .unset, .unset, .unset, .unset, .unset, .unset, .unset, .unset, .unset, .unset, .unset]) rfl (pc' := 15) rfl ?_
  refine ow_iload C X13 at_15 rfl (pc' := 17) rfl ?_
  refine ow_iconst (2 : Int32) C X13 at_17 (by decide) (pc' := 18) rfl ?_
  refine ow_iand C X13 at_18 (pc' := 19) rfl ?_
  refine ow_join X13 e13 (f' := (mkF m 28 #[.val (.long q0), .second, .val (.long q1), .second, .val (.long q2), .second, .val (.long q3), .second, .val (.int q4), .val (.long (own_law_j13 q0 q1 q2 q3 q4)), .second, .unset, .unset, .unset, .unset, .unset, .unset, .unset, .unset, .unset, .unset, .unset, .unset] [(.long (own_law_j28 q0 q1 q2 q3 q4))])) ?_ (fun T14 X14 e14 => ?_)
  · intro D14 jk14
    refine ow_if_eq C X13 at_19 (pcT := 26) (pc' := 22) (by decide) (by decide) rfl (fun b19 => ?_) (fun b19 => ?_)
    · refine ow_lload C X13 at_26 rfl (pc' := 28) rfl ?_
      have jq := jk14 T13 X13 e13
      rw [show (own_law_j28 q0 q1 q2 q3 q4) = q3 from by unfold own_law_j28; (try rw [if_pos b19]); (try rfl)] at jq
      exact jq
    · refine ow_lloadN C X13 at_22 rfl (pc' := 23) rfl ?_
      refine ow_goto C X13 at_23 (pcT := 28) (by decide) (by decide) ?_
      have jq := jk14 T13 X13 e13
      rw [show (own_law_j28 q0 q1 q2 q3 q4) = q1 from by unfold own_law_j28; (try rw [if_neg b19]); (try rfl)] at jq
      exact jq
  refine ow_lstore C X14 at_28 (Ls' := #[.val (.long q0), .second, .val (.long q1), .second, .val (.long q2), .second, .val (.long q3), .second, .val (.int q4), .val (.long (own_law_j13 q0 q1 q2 q3 q4)), .second, .val (.long (own_law_j28 q0 q1 q2 q3 q4)), .second, .unset, .unset, .unset, .unset, .unset, .unset, .unset, .unset, .unset, .unset]) rfl (pc' := 30) rfl ?_
  refine ow_new C X14 e14 (hw _ (List.mem_of_getElem? (i := 0) rfl)) (hw _ (List.mem_of_getElem? (i := 1) rfl)) (hw _ (List.mem_of_getElem? (i := 2) rfl)) at_30 (Nat.le_of_ble_eq_true rfl) (Nat.le_of_ble_eq_true rfl) (pc' := 33) rfl (fun T15 h15 a15 g15 X15 e15 Ex15 A15 D15 => ?_)
  have Fn15_0 : Fld Z h15 a15 "com/example/offset/offset/server/Delay" "dueAt" "J" (.long (0 : Int64)) := D15 (Or.inr (hw _ (List.mem_of_getElem? (i := 10) rfl))) (ty := .long) (by decide)
  have Fn15_1 : Fld Z h15 a15 "com/example/offset/offset/server/Delay" "id" "J" (.long (0 : Int64)) := D15 (Or.inr (hw _ (List.mem_of_getElem? (i := 12) rfl))) (ty := .long) (by decide)
  have Ge15 : n0 ≤ a15 := Nat.le_trans Z0 (Nat.le_of_eq g15.symm)
  have Z15 : n0 ≤ h15.size := Nat.le_trans Z0 Ex15.1
  refine ow_dup C X15 at_33 rfl (pc' := 34) rfl ?_
  refine ow_lloadN C X15 at_34 rfl (pc' := 35) rfl ?_
  refine ow_lloadN C X15 at_35 rfl (pc' := 36) rfl ?_
  refine ow_callN C X15 e15 rfl (hw _ (List.mem_of_getElem? (i := 3) rfl)) (hw _ (List.mem_of_getElem? (i := 4) rfl)) (hw _ (List.mem_of_getElem? (i := 2) rfl)) (hw _ (List.mem_of_getElem? (i := 5) rfl)) (by decide) (rm_init l Z a0 hw a15 q0 q1 (.long (0 : Int64)) (.long (0 : Int64)) h15 n0 A15 Ge15 Fn15_0 Fn15_1) pd_0 rfl (argsL := [(.long q0), (.long q1)]) (rest := [(.ref a15)]) rfl rfl at_36 (Nat.le_of_ble_eq_true rfl) (Nat.le_of_ble_eq_true rfl) (Nat.le_of_ble_eq_true rfl) (Nat.le_of_ble_eq_true rfl) (pc' := 39) rfl (fun T16 v16 L16 X16 Q16 => ?_)
  obtain ⟨rfl, N16, K16, E16, Fc16_0, Fc16_1⟩ := Q16
  show OwF p e below _ T16 (mkF m 39 #[.val (.long q0), .second, .val (.long q1), .second, .val (.long q2), .second, .val (.long q3), .second, .val (.int q4), .val (.long (own_law_j13 q0 q1 q2 q3 q4)), .second, .val (.long (own_law_j28 q0 q1 q2 q3 q4)), .second, .unset, .unset, .unset, .unset, .unset, .unset, .unset, .unset, .unset, .unset] [(.ref a15)])
  have E16_0 := E16
  have Nn16 := Fr.app (Fr.nil n0) N16
  have Z16 : n0 ≤ T16.heap.size := Nat.le_trans Z15 K16.1
  refine ow_astore C X16 at_39 rfl (Ls' := #[.val (.long q0), .second, .val (.long q1), .second, .val (.long q2), .second, .val (.long q3), .second, .val (.int q4), .val (.long (own_law_j13 q0 q1 q2 q3 q4)), .second, .val (.long (own_law_j28 q0 q1 q2 q3 q4)), .second, .val (.ref a15), .unset, .unset, .unset, .unset, .unset, .unset, .unset, .unset, .unset]) rfl (pc' := 41) rfl ?_
  refine ow_new C X16 rfl (hw _ (List.mem_of_getElem? (i := 0) rfl)) (hw _ (List.mem_of_getElem? (i := 1) rfl)) (hw _ (List.mem_of_getElem? (i := 2) rfl)) at_41 (Nat.le_of_ble_eq_true rfl) (Nat.le_of_ble_eq_true rfl) (pc' := 44) rfl (fun T17 h17 a17 g17 X17 e17 Ex17 A17 D17 => ?_)
  have ne17_a15 : a15 ≠ a17 := Nat.ne_of_lt (Nat.lt_of_lt_of_le E16_0.lt (Nat.le_of_eq g17.symm))
  have E17_0 := E16_0.ext Ex17
  have F17_1 := Fc16_0.ext Ex17
  have F17_2 := Fc16_1.ext Ex17
  have Fn17_0 : Fld Z h17 a17 "com/example/offset/offset/server/Delay" "dueAt" "J" (.long (0 : Int64)) := D17 (Or.inr (hw _ (List.mem_of_getElem? (i := 10) rfl))) (ty := .long) (by decide)
  have Fn17_1 : Fld Z h17 a17 "com/example/offset/offset/server/Delay" "id" "J" (.long (0 : Int64)) := D17 (Or.inr (hw _ (List.mem_of_getElem? (i := 12) rfl))) (ty := .long) (by decide)
  have Ge17 : n0 ≤ a17 := Nat.le_trans Z16 (Nat.le_of_eq g17.symm)
  have Z17 : n0 ≤ h17.size := Nat.le_trans Z16 Ex17.1
  refine ow_dup C X17 at_44 rfl (pc' := 45) rfl ?_
  refine ow_lload C X17 at_45 rfl (pc' := 47) rfl ?_
  refine ow_lload C X17 at_47 rfl (pc' := 49) rfl ?_
  refine ow_callN C X17 e17 rfl (hw _ (List.mem_of_getElem? (i := 3) rfl)) (hw _ (List.mem_of_getElem? (i := 4) rfl)) (hw _ (List.mem_of_getElem? (i := 2) rfl)) (hw _ (List.mem_of_getElem? (i := 5) rfl)) (by decide) (rm_init l Z a0 hw a17 (own_law_j13 q0 q1 q2 q3 q4) (own_law_j28 q0 q1 q2 q3 q4) (.long (0 : Int64)) (.long (0 : Int64)) h17 n0 A17 Ge17 Fn17_0 Fn17_1) pd_0 rfl (argsL := [(.long (own_law_j13 q0 q1 q2 q3 q4)), (.long (own_law_j28 q0 q1 q2 q3 q4))]) (rest := [(.ref a17)]) rfl rfl at_49 (Nat.le_of_ble_eq_true rfl) (Nat.le_of_ble_eq_true rfl) (Nat.le_of_ble_eq_true rfl) (Nat.le_of_ble_eq_true rfl) (pc' := 52) rfl (fun T18 v18 L18 X18 Q18 => ?_)
  obtain ⟨rfl, N18, K18, E18, Fc18_0, Fc18_1⟩ := Q18
  show OwF p e below _ T18 (mkF m 52 #[.val (.long q0), .second, .val (.long q1), .second, .val (.long q2), .second, .val (.long q3), .second, .val (.int q4), .val (.long (own_law_j13 q0 q1 q2 q3 q4)), .second, .val (.long (own_law_j28 q0 q1 q2 q3 q4)), .second, .val (.ref a15), .unset, .unset, .unset, .unset, .unset, .unset, .unset, .unset, .unset] [(.ref a17)])
  have E18_0 := E17_0.keep K18
  have E18_1 := E18
  have F18_2 := F17_1.keep K18 (own_nm ne17_a15)
  have F18_3 := F17_2.keep K18 (own_nm ne17_a15)
  have Nn18 := Fr.app Nn16 N18
  have Z18 : n0 ≤ T18.heap.size := Nat.le_trans Z17 K18.1
  refine ow_astore C X18 at_52 rfl (Ls' := #[.val (.long q0), .second, .val (.long q1), .second, .val (.long q2), .second, .val (.long q3), .second, .val (.int q4), .val (.long (own_law_j13 q0 q1 q2 q3 q4)), .second, .val (.long (own_law_j28 q0 q1 q2 q3 q4)), .second, .val (.ref a15), .val (.ref a17), .unset, .unset, .unset, .unset, .unset, .unset, .unset, .unset]) rfl (pc' := 54) rfl ?_
  refine ow_aload C X18 at_54 rfl rfl (pc' := 56) rfl ?_
  refine ow_lload C X18 at_56 rfl (pc' := 58) rfl ?_
  refine ow_lload C X18 at_58 rfl (pc' := 60) rfl ?_
  refine ow_callVP C X18 rfl (hw _ (List.mem_of_getElem? (i := 13) rfl)) (hw _ (List.mem_of_getElem? (i := 14) rfl)) (hw _ (List.mem_of_getElem? (i := 16) rfl)) rfl (hw _ (List.mem_of_getElem? (i := 15) rfl)) (hw _ (List.mem_of_getElem? (i := 2) rfl)) (hw _ (List.mem_of_getElem? (i := 17) rfl)) (by decide) E18_0 (rm_prec l Z a0 hw a15 (own_law_j13 q0 q1 q2 q3 q4) (own_law_j28 q0 q1 q2 q3 q4) q0 q1 T18.heap F18_2 F18_3) ⟨rfl, rfl⟩ pd_3 rfl (argsL := [(.long (own_law_j13 q0 q1 q2 q3 q4)), (.long (own_law_j28 q0 q1 q2 q3 q4))]) (rest := []) rfl rfl at_60 (Nat.le_of_ble_eq_true rfl) (Nat.le_of_ble_eq_true rfl) (Nat.le_of_ble_eq_true rfl) (Nat.le_of_ble_eq_true rfl) (pc' := 63) rfl (fun T19 X19 e19 => ?_)
  refine ow_istore C X19 at_63 (Ls' := #[.val (.long q0), .second, .val (.long q1), .second, .val (.long q2), .second, .val (.long q3), .second, .val (.int q4), .val (.long (own_law_j13 q0 q1 q2 q3 q4)), .second, .val (.long (own_law_j28 q0 q1 q2 q3 q4)), .second, .val (.ref a15), .val (.ref a17), .val (.int (own_prec (own_law_j13 q0 q1 q2 q3 q4) (own_law_j28 q0 q1 q2 q3 q4) q0 q1)), .unset, .unset, .unset, .unset, .unset, .unset, .unset]) rfl (pc' := 65) rfl ?_
  refine ow_aload C X19 at_65 rfl rfl (pc' := 67) rfl ?_
  refine ow_lloadN C X19 at_67 rfl (pc' := 68) rfl ?_
  refine ow_lloadN C X19 at_68 rfl (pc' := 69) rfl ?_
  refine ow_callVP C X19 e19 (hw _ (List.mem_of_getElem? (i := 13) rfl)) (hw _ (List.mem_of_getElem? (i := 14) rfl)) (hw _ (List.mem_of_getElem? (i := 16) rfl)) rfl (hw _ (List.mem_of_getElem? (i := 15) rfl)) (hw _ (List.mem_of_getElem? (i := 2) rfl)) (hw _ (List.mem_of_getElem? (i := 17) rfl)) (by decide) E18_1 (rm_prec l Z a0 hw a17 q0 q1 (own_law_j13 q0 q1 q2 q3 q4) (own_law_j28 q0 q1 q2 q3 q4) T18.heap Fc18_0 Fc18_1) ⟨rfl, rfl⟩ pd_3 rfl (argsL := [(.long q0), (.long q1)]) (rest := []) rfl rfl at_69 (Nat.le_of_ble_eq_true rfl) (Nat.le_of_ble_eq_true rfl) (Nat.le_of_ble_eq_true rfl) (Nat.le_of_ble_eq_true rfl) (pc' := 72) rfl (fun T20 X20 e20 => ?_)
  refine ow_istore C X20 at_72 (Ls' := #[.val (.long q0), .second, .val (.long q1), .second, .val (.long q2), .second, .val (.long q3), .second, .val (.int q4), .val (.long (own_law_j13 q0 q1 q2 q3 q4)), .second, .val (.long (own_law_j28 q0 q1 q2 q3 q4)), .second, .val (.ref a15), .val (.ref a17), .val (.int (own_prec (own_law_j13 q0 q1 q2 q3 q4) (own_law_j28 q0 q1 q2 q3 q4) q0 q1)), .val (.int (own_prec q0 q1 (own_law_j13 q0 q1 q2 q3 q4) (own_law_j28 q0 q1 q2 q3 q4))), .unset, .unset, .unset, .unset, .unset, .unset]) rfl (pc' := 74) rfl ?_
  refine ow_aload C X20 at_74 rfl rfl (pc' := 76) rfl ?_
  refine ow_aload C X20 at_76 rfl rfl (pc' := 78) rfl ?_
  refine ow_callVP C X20 e20 (hw _ (List.mem_of_getElem? (i := 18) rfl)) (hw _ (List.mem_of_getElem? (i := 19) rfl)) (hw _ (List.mem_of_getElem? (i := 21) rfl)) rfl (hw _ (List.mem_of_getElem? (i := 20) rfl)) (hw _ (List.mem_of_getElem? (i := 2) rfl)) (hw _ (List.mem_of_getElem? (i := 22) rfl)) (by decide) E18_0 (rm_cmp l Z a0 hw a15 a17 q0 (own_law_j13 q0 q1 q2 q3 q4) q1 (own_law_j28 q0 q1 q2 q3 q4) T18.heap F18_2 Fc18_0 F18_3 Fc18_1) ⟨rfl, rfl⟩ pd_2 rfl (argsL := [(.ref a17)]) (rest := []) rfl rfl at_78 (Nat.le_of_ble_eq_true rfl) (Nat.le_of_ble_eq_true rfl) (Nat.le_of_ble_eq_true rfl) (Nat.le_of_ble_eq_true rfl) (pc' := 81) rfl (fun T21 X21 e21 => ?_)
  refine ow_istore C X21 at_81 (Ls' := #[.val (.long q0), .second, .val (.long q1), .second, .val (.long q2), .second, .val (.long q3), .second, .val (.int q4), .val (.long (own_law_j13 q0 q1 q2 q3 q4)), .second, .val (.long (own_law_j28 q0 q1 q2 q3 q4)), .second, .val (.ref a15), .val (.ref a17), .val (.int (own_prec (own_law_j13 q0 q1 q2 q3 q4) (own_law_j28 q0 q1 q2 q3 q4) q0 q1)), .val (.int (own_prec q0 q1 (own_law_j13 q0 q1 q2 q3 q4) (own_law_j28 q0 q1 q2 q3 q4))), .val (.int (own_cmp q0 (own_law_j13 q0 q1 q2 q3 q4) q1 (own_law_j28 q0 q1 q2 q3 q4))), .unset, .unset, .unset, .unset, .unset]) rfl (pc' := 83) rfl ?_
  refine ow_lloadN C X21 at_83 rfl (pc' := 84) rfl ?_
  refine ow_lload C X21 at_84 rfl (pc' := 86) rfl ?_
  refine ow_lcmp C X21 at_86 (pc' := 87) rfl ?_
  refine ow_join X21 e21 (f' := (mkF m 102 #[.val (.long q0), .second, .val (.long q1), .second, .val (.long q2), .second, .val (.long q3), .second, .val (.int q4), .val (.long (own_law_j13 q0 q1 q2 q3 q4)), .second, .val (.long (own_law_j28 q0 q1 q2 q3 q4)), .second, .val (.ref a15), .val (.ref a17), .val (.int (own_prec (own_law_j13 q0 q1 q2 q3 q4) (own_law_j28 q0 q1 q2 q3 q4) q0 q1)), .val (.int (own_prec q0 q1 (own_law_j13 q0 q1 q2 q3 q4) (own_law_j28 q0 q1 q2 q3 q4))), .val (.int (own_cmp q0 (own_law_j13 q0 q1 q2 q3 q4) q1 (own_law_j28 q0 q1 q2 q3 q4))), .unset, .unset, .unset, .unset, .unset] [(.int (own_law_j102 q0 q1 q2 q3 q4))])) ?_ (fun T22 X22 e22 => ?_)
  · intro D22 jk22
    refine ow_lif_ne C X21 at_87 (pcT := 101) (pc' := 90) (by decide) (by decide) rfl (fun b87 => ?_) (fun b87 => ?_)
    · refine ow_iconst (0 : Int32) C X21 at_101 (by decide) (pc' := 102) rfl ?_
      have jq := jk22 T21 X21 e21
      rw [show (own_law_j102 q0 q1 q2 q3 q4) = (0 : Int32) from by unfold own_law_j102; (try rw [if_neg b87]); (try rfl)] at jq
      exact jq
    · refine ow_lloadN C X21 at_90 rfl (pc' := 91) rfl ?_
      refine ow_lload C X21 at_91 rfl (pc' := 93) rfl ?_
      refine ow_lcmp C X21 at_93 (pc' := 94) rfl ?_
      refine ow_lif_ne C X21 at_94 (pcT := 101) (pc' := 97) (by decide) (by decide) rfl (fun b94 => ?_) (fun b94 => ?_)
      · refine ow_iconst (0 : Int32) C X21 at_101 (by decide) (pc' := 102) rfl ?_
        have jq := jk22 T21 X21 e21
        rw [show (own_law_j102 q0 q1 q2 q3 q4) = (0 : Int32) from by unfold own_law_j102; (try rw [if_pos b87]); (try rw [if_neg b94]); (try rfl)] at jq
        exact jq
      · refine ow_iconst (1 : Int32) C X21 at_97 (by decide) (pc' := 98) rfl ?_
        refine ow_goto C X21 at_98 (pcT := 102) (by decide) (by decide) ?_
        have jq := jk22 T21 X21 e21
        rw [show (own_law_j102 q0 q1 q2 q3 q4) = (1 : Int32) from by unfold own_law_j102; (try rw [if_pos b87]); (try rw [if_pos b94]); (try rfl)] at jq
        exact jq
  refine ow_istore C X22 at_102 (Ls' := #[.val (.long q0), .second, .val (.long q1), .second, .val (.long q2), .second, .val (.long q3), .second, .val (.int q4), .val (.long (own_law_j13 q0 q1 q2 q3 q4)), .second, .val (.long (own_law_j28 q0 q1 q2 q3 q4)), .second, .val (.ref a15), .val (.ref a17), .val (.int (own_prec (own_law_j13 q0 q1 q2 q3 q4) (own_law_j28 q0 q1 q2 q3 q4) q0 q1)), .val (.int (own_prec q0 q1 (own_law_j13 q0 q1 q2 q3 q4) (own_law_j28 q0 q1 q2 q3 q4))), .val (.int (own_cmp q0 (own_law_j13 q0 q1 q2 q3 q4) q1 (own_law_j28 q0 q1 q2 q3 q4))), .val (.int (own_law_j102 q0 q1 q2 q3 q4)), .unset, .unset, .unset, .unset]) rfl (pc' := 104) rfl ?_
  refine ow_iload C X22 at_104 rfl (pc' := 106) rfl ?_
  refine ow_iload C X22 at_106 rfl (pc' := 108) rfl ?_
  refine ow_join X22 e22 (f' := (mkF m 116 #[.val (.long q0), .second, .val (.long q1), .second, .val (.long q2), .second, .val (.long q3), .second, .val (.int q4), .val (.long (own_law_j13 q0 q1 q2 q3 q4)), .second, .val (.long (own_law_j28 q0 q1 q2 q3 q4)), .second, .val (.ref a15), .val (.ref a17), .val (.int (own_prec (own_law_j13 q0 q1 q2 q3 q4) (own_law_j28 q0 q1 q2 q3 q4) q0 q1)), .val (.int (own_prec q0 q1 (own_law_j13 q0 q1 q2 q3 q4) (own_law_j28 q0 q1 q2 q3 q4))), .val (.int (own_cmp q0 (own_law_j13 q0 q1 q2 q3 q4) q1 (own_law_j28 q0 q1 q2 q3 q4))), .val (.int (own_law_j102 q0 q1 q2 q3 q4)), .unset, .unset, .unset, .unset] [(.int (own_law_j116 q0 q1 q2 q3 q4)), (.int (own_prec (own_law_j13 q0 q1 q2 q3 q4) (own_law_j28 q0 q1 q2 q3 q4) q0 q1))])) ?_ (fun T23 X23 e23 => ?_)
  · intro D23 jk23
    refine ow_if_ge C X22 at_108 (pcT := 115) (pc' := 111) (by decide) (by decide) rfl (fun b108 => ?_) (fun b108 => ?_)
    · refine ow_iconst (0 : Int32) C X22 at_115 (by decide) (pc' := 116) rfl ?_
      have jq := jk23 T22 X22 e22
      rw [show (own_law_j116 q0 q1 q2 q3 q4) = (0 : Int32) from by unfold own_law_j116; (try rw [if_neg b108]); (try rfl)] at jq
      exact jq
    · refine ow_iconst (1 : Int32) C X22 at_111 (by decide) (pc' := 112) rfl ?_
      refine ow_goto C X22 at_112 (pcT := 116) (by decide) (by decide) ?_
      have jq := jk23 T22 X22 e22
      rw [show (own_law_j116 q0 q1 q2 q3 q4) = (1 : Int32) from by unfold own_law_j116; (try rw [if_pos b108]); (try rfl)] at jq
      exact jq
  refine ow_join X23 e23 (f' := (mkF m 139 #[.val (.long q0), .second, .val (.long q1), .second, .val (.long q2), .second, .val (.long q3), .second, .val (.int q4), .val (.long (own_law_j13 q0 q1 q2 q3 q4)), .second, .val (.long (own_law_j28 q0 q1 q2 q3 q4)), .second, .val (.ref a15), .val (.ref a17), .val (.int (own_prec (own_law_j13 q0 q1 q2 q3 q4) (own_law_j28 q0 q1 q2 q3 q4) q0 q1)), .val (.int (own_prec q0 q1 (own_law_j13 q0 q1 q2 q3 q4) (own_law_j28 q0 q1 q2 q3 q4))), .val (.int (own_cmp q0 (own_law_j13 q0 q1 q2 q3 q4) q1 (own_law_j28 q0 q1 q2 q3 q4))), .val (.int (own_law_j102 q0 q1 q2 q3 q4)), .unset, .unset, .unset, .unset] [(.int (own_law_j139 q0 q1 q2 q3 q4))])) ?_ (fun T25 X25 e25 => ?_)
  · intro D25 jk25
    refine ow_icmp_ne C X23 at_116 (pcT := 138) (pc' := 119) (by decide) (by decide) rfl (fun b116 => ?_) (fun b116 => ?_)
    · refine ow_iconst (0 : Int32) C X23 at_138 (by decide) (pc' := 139) rfl ?_
      have jq := jk25 T23 X23 e23
      rw [show (own_law_j139 q0 q1 q2 q3 q4) = (0 : Int32) from by unfold own_law_j139; (try rw [if_neg b116]); (try rfl)] at jq
      exact jq
    · refine ow_iload C X23 at_119 rfl (pc' := 121) rfl ?_
      refine ow_iload C X23 at_121 rfl (pc' := 123) rfl ?_
      refine ow_join X23 e23 (f' := (mkF m 131 #[.val (.long q0), .second, .val (.long q1), .second, .val (.long q2), .second, .val (.long q3), .second, .val (.int q4), .val (.long (own_law_j13 q0 q1 q2 q3 q4)), .second, .val (.long (own_law_j28 q0 q1 q2 q3 q4)), .second, .val (.ref a15), .val (.ref a17), .val (.int (own_prec (own_law_j13 q0 q1 q2 q3 q4) (own_law_j28 q0 q1 q2 q3 q4) q0 q1)), .val (.int (own_prec q0 q1 (own_law_j13 q0 q1 q2 q3 q4) (own_law_j28 q0 q1 q2 q3 q4))), .val (.int (own_cmp q0 (own_law_j13 q0 q1 q2 q3 q4) q1 (own_law_j28 q0 q1 q2 q3 q4))), .val (.int (own_law_j102 q0 q1 q2 q3 q4)), .unset, .unset, .unset, .unset] [(.int (own_law_j131 q0 q1 q2 q3 q4)), (.int (own_prec q0 q1 (own_law_j13 q0 q1 q2 q3 q4) (own_law_j28 q0 q1 q2 q3 q4)))])) ?_ (fun T24 X24 e24 => ?_)
      · intro D24 jk24
        refine ow_if_le C X23 at_123 (pcT := 130) (pc' := 126) (by decide) (by decide) rfl (fun b123 => ?_) (fun b123 => ?_)
        · refine ow_iconst (0 : Int32) C X23 at_130 (by decide) (pc' := 131) rfl ?_
          have jq := jk24 T23 X23 e23
          rw [show (own_law_j131 q0 q1 q2 q3 q4) = (0 : Int32) from by unfold own_law_j131; (try rw [if_neg b123]); (try rfl)] at jq
          exact jq
        · refine ow_iconst (1 : Int32) C X23 at_126 (by decide) (pc' := 127) rfl ?_
          refine ow_goto C X23 at_127 (pcT := 131) (by decide) (by decide) ?_
          have jq := jk24 T23 X23 e23
          rw [show (own_law_j131 q0 q1 q2 q3 q4) = (1 : Int32) from by unfold own_law_j131; (try rw [if_pos b123]); (try rfl)] at jq
          exact jq
      refine ow_icmp_ne C X24 at_131 (pcT := 138) (pc' := 134) (by decide) (by decide) rfl (fun b131 => ?_) (fun b131 => ?_)
      · refine ow_iconst (0 : Int32) C X24 at_138 (by decide) (pc' := 139) rfl ?_
        have jq := jk25 T24 X24 e24
        rw [show (own_law_j139 q0 q1 q2 q3 q4) = (0 : Int32) from by unfold own_law_j139; (try rw [if_pos b116]); (try rw [if_neg b131]); (try rfl)] at jq
        exact jq
      · refine ow_iconst (1 : Int32) C X24 at_134 (by decide) (pc' := 135) rfl ?_
        refine ow_goto C X24 at_135 (pcT := 139) (by decide) (by decide) ?_
        have jq := jk25 T24 X24 e24
        rw [show (own_law_j139 q0 q1 q2 q3 q4) = (1 : Int32) from by unfold own_law_j139; (try rw [if_pos b116]); (try rw [if_pos b131]); (try rfl)] at jq
        exact jq
  refine ow_istore C X25 at_139 (Ls' := #[.val (.long q0), .second, .val (.long q1), .second, .val (.long q2), .second, .val (.long q3), .second, .val (.int q4), .val (.long (own_law_j13 q0 q1 q2 q3 q4)), .second, .val (.long (own_law_j28 q0 q1 q2 q3 q4)), .second, .val (.ref a15), .val (.ref a17), .val (.int (own_prec (own_law_j13 q0 q1 q2 q3 q4) (own_law_j28 q0 q1 q2 q3 q4) q0 q1)), .val (.int (own_prec q0 q1 (own_law_j13 q0 q1 q2 q3 q4) (own_law_j28 q0 q1 q2 q3 q4))), .val (.int (own_cmp q0 (own_law_j13 q0 q1 q2 q3 q4) q1 (own_law_j28 q0 q1 q2 q3 q4))), .val (.int (own_law_j102 q0 q1 q2 q3 q4)), .val (.int (own_law_j139 q0 q1 q2 q3 q4)), .unset, .unset, .unset]) rfl (pc' := 141) rfl ?_
  refine ow_iload C X25 at_141 rfl (pc' := 143) rfl ?_
  refine ow_join X25 e25 (f' := (mkF m 176 #[.val (.long q0), .second, .val (.long q1), .second, .val (.long q2), .second, .val (.long q3), .second, .val (.int q4), .val (.long (own_law_j13 q0 q1 q2 q3 q4)), .second, .val (.long (own_law_j28 q0 q1 q2 q3 q4)), .second, .val (.ref a15), .val (.ref a17), .val (.int (own_prec (own_law_j13 q0 q1 q2 q3 q4) (own_law_j28 q0 q1 q2 q3 q4) q0 q1)), .val (.int (own_prec q0 q1 (own_law_j13 q0 q1 q2 q3 q4) (own_law_j28 q0 q1 q2 q3 q4))), .val (.int (own_cmp q0 (own_law_j13 q0 q1 q2 q3 q4) q1 (own_law_j28 q0 q1 q2 q3 q4))), .val (.int (own_law_j102 q0 q1 q2 q3 q4)), .val (.int (own_law_j139 q0 q1 q2 q3 q4)), .unset, .unset, .unset] [(.int (own_law_j176 q0 q1 q2 q3 q4))])) ?_ (fun T27 X27 e27 => ?_)
  · intro D27 jk27
    refine ow_if_eq C X25 at_143 (pcT := 151) (pc' := 146) (by decide) (by decide) rfl (fun b143 => ?_) (fun b143 => ?_)
    · refine ow_iload C X25 at_151 rfl (pc' := 153) rfl ?_
      refine ow_iload C X25 at_153 rfl (pc' := 155) rfl ?_
      refine ow_if_ne C X25 at_155 (pcT := 167) (pc' := 158) (by decide) (by decide) rfl (fun bq => absurd b143 bq) (fun _ => ?_)
      refine ow_iload C X25 at_158 rfl (pc' := 160) rfl ?_
      refine ow_join X25 e25 (f' := (mkF m 168 #[.val (.long q0), .second, .val (.long q1), .second, .val (.long q2), .second, .val (.long q3), .second, .val (.int q4), .val (.long (own_law_j13 q0 q1 q2 q3 q4)), .second, .val (.long (own_law_j28 q0 q1 q2 q3 q4)), .second, .val (.ref a15), .val (.ref a17), .val (.int (own_prec (own_law_j13 q0 q1 q2 q3 q4) (own_law_j28 q0 q1 q2 q3 q4) q0 q1)), .val (.int (own_prec q0 q1 (own_law_j13 q0 q1 q2 q3 q4) (own_law_j28 q0 q1 q2 q3 q4))), .val (.int (own_cmp q0 (own_law_j13 q0 q1 q2 q3 q4) q1 (own_law_j28 q0 q1 q2 q3 q4))), .val (.int (own_law_j102 q0 q1 q2 q3 q4)), .val (.int (own_law_j139 q0 q1 q2 q3 q4)), .unset, .unset, .unset] [(.int (own_law_j168 q0 q1 q2 q3 q4)), (.int (own_law_j102 q0 q1 q2 q3 q4))])) ?_ (fun T26 X26 e26 => ?_)
      · intro D26 jk26
        refine ow_if_ne C X25 at_160 (pcT := 167) (pc' := 163) (by decide) (by decide) rfl (fun b160 => ?_) (fun b160 => ?_)
        · refine ow_iconst (0 : Int32) C X25 at_167 (by decide) (pc' := 168) rfl ?_
          have jq := jk26 T25 X25 e25
          rw [show (own_law_j168 q0 q1 q2 q3 q4) = (0 : Int32) from by unfold own_law_j168; (try rw [if_neg b160]); (try rfl)] at jq
          exact jq
        · refine ow_iconst (1 : Int32) C X25 at_163 (by decide) (pc' := 164) rfl ?_
          refine ow_goto C X25 at_164 (pcT := 168) (by decide) (by decide) ?_
          have jq := jk26 T25 X25 e25
          rw [show (own_law_j168 q0 q1 q2 q3 q4) = (1 : Int32) from by unfold own_law_j168; (try rw [if_pos b160]); (try rfl)] at jq
          exact jq
      refine ow_icmp_ne C X26 at_168 (pcT := 175) (pc' := 171) (by decide) (by decide) rfl (fun b168 => ?_) (fun b168 => ?_)
      · refine ow_iconst (0 : Int32) C X26 at_175 (by decide) (pc' := 176) rfl ?_
        have jq := jk27 T26 X26 e26
        rw [show (own_law_j176 q0 q1 q2 q3 q4) = (0 : Int32) from by unfold own_law_j176; (try rw [if_pos b143]); (try rw [if_neg b168]); (try rfl)] at jq
        exact jq
      · refine ow_iconst (1 : Int32) C X26 at_171 (by decide) (pc' := 172) rfl ?_
        refine ow_goto C X26 at_172 (pcT := 176) (by decide) (by decide) ?_
        have jq := jk27 T26 X26 e26
        rw [show (own_law_j176 q0 q1 q2 q3 q4) = (1 : Int32) from by unfold own_law_j176; (try rw [if_pos b143]); (try rw [if_pos b168]); (try rfl)] at jq
        exact jq
    · refine ow_iload C X25 at_146 rfl (pc' := 148) rfl ?_
      refine ow_if_ne C X25 at_148 (pcT := 175) (pc' := 151) (by decide) (by decide) rfl (fun b148 => ?_) (fun b148 => ?_)
      · refine ow_iconst (0 : Int32) C X25 at_175 (by decide) (pc' := 176) rfl ?_
        have jq := jk27 T25 X25 e25
        rw [show (own_law_j176 q0 q1 q2 q3 q4) = (0 : Int32) from by unfold own_law_j176; (try rw [if_neg b143]); (try rw [if_neg b148]); (try rfl)] at jq
        exact jq
      · refine ow_iload C X25 at_151 rfl (pc' := 153) rfl ?_
        refine ow_iload C X25 at_153 rfl (pc' := 155) rfl ?_
        refine ow_if_ne C X25 at_155 (pcT := 167) (pc' := 158) (by decide) (by decide) rfl (fun _ => ?_) (fun bq => absurd bq b143)
        refine ow_iconst (0 : Int32) C X25 at_167 (by decide) (pc' := 168) rfl ?_
        refine ow_icmp_ne C X25 at_168 (pcT := 175) (pc' := 171) (by decide) (by decide) rfl (fun b168 => ?_) (fun b168 => ?_)
        · refine ow_iconst (0 : Int32) C X25 at_175 (by decide) (pc' := 176) rfl ?_
          have jq := jk27 T25 X25 e25
          rw [show (own_law_j176 q0 q1 q2 q3 q4) = (0 : Int32) from by unfold own_law_j176; (try rw [if_neg b143]); (try rw [if_pos b148]); (try rw [if_neg b168]); (try rfl)] at jq
          exact jq
        · refine ow_iconst (1 : Int32) C X25 at_171 (by decide) (pc' := 172) rfl ?_
          refine ow_goto C X25 at_172 (pcT := 176) (by decide) (by decide) ?_
          have jq := jk27 T25 X25 e25
          rw [show (own_law_j176 q0 q1 q2 q3 q4) = (1 : Int32) from by unfold own_law_j176; (try rw [if_neg b143]); (try rw [if_pos b148]); (try rw [if_pos b168]); (try rfl)] at jq
          exact jq
  refine ow_istore C X27 at_176 (Ls' := #[.val (.long q0), .second, .val (.long q1), .second, .val (.long q2), .second, .val (.long q3), .second, .val (.int q4), .val (.long (own_law_j13 q0 q1 q2 q3 q4)), .second, .val (.long (own_law_j28 q0 q1 q2 q3 q4)), .second, .val (.ref a15), .val (.ref a17), .val (.int (own_prec (own_law_j13 q0 q1 q2 q3 q4) (own_law_j28 q0 q1 q2 q3 q4) q0 q1)), .val (.int (own_prec q0 q1 (own_law_j13 q0 q1 q2 q3 q4) (own_law_j28 q0 q1 q2 q3 q4))), .val (.int (own_cmp q0 (own_law_j13 q0 q1 q2 q3 q4) q1 (own_law_j28 q0 q1 q2 q3 q4))), .val (.int (own_law_j102 q0 q1 q2 q3 q4)), .val (.int (own_law_j139 q0 q1 q2 q3 q4)), .val (.int (own_law_j176 q0 q1 q2 q3 q4)), .unset, .unset]) rfl (pc' := 178) rfl ?_
  refine ow_lloadN C X27 at_178 rfl (pc' := 179) rfl ?_
  refine ow_lload C X27 at_179 rfl (pc' := 181) rfl ?_
  refine ow_lcmp C X27 at_181 (pc' := 182) rfl ?_
  refine ow_join X27 e27 (f' := (mkF m 207 #[.val (.long q0), .second, .val (.long q1), .second, .val (.long q2), .second, .val (.long q3), .second, .val (.int q4), .val (.long (own_law_j13 q0 q1 q2 q3 q4)), .second, .val (.long (own_law_j28 q0 q1 q2 q3 q4)), .second, .val (.ref a15), .val (.ref a17), .val (.int (own_prec (own_law_j13 q0 q1 q2 q3 q4) (own_law_j28 q0 q1 q2 q3 q4) q0 q1)), .val (.int (own_prec q0 q1 (own_law_j13 q0 q1 q2 q3 q4) (own_law_j28 q0 q1 q2 q3 q4))), .val (.int (own_cmp q0 (own_law_j13 q0 q1 q2 q3 q4) q1 (own_law_j28 q0 q1 q2 q3 q4))), .val (.int (own_law_j102 q0 q1 q2 q3 q4)), .val (.int (own_law_j139 q0 q1 q2 q3 q4)), .val (.int (own_law_j176 q0 q1 q2 q3 q4)), .unset, .unset] [(.int (own_law_j207 q0 q1 q2 q3 q4))])) ?_ (fun T29 X29 e29 => ?_)
  · intro D29 jk29
    refine ow_lif_eq C X27 at_182 (pcT := 202) (pc' := 185) (by decide) (by decide) rfl (fun b182 => ?_) (fun b182 => ?_)
    · refine ow_iconst (1 : Int32) C X27 at_202 (by decide) (pc' := 203) rfl ?_
      refine ow_goto C X27 at_203 (pcT := 207) (by decide) (by decide) ?_
      have jq := jk29 T27 X27 e27
      rw [show (own_law_j207 q0 q1 q2 q3 q4) = (1 : Int32) from by unfold own_law_j207; (try rw [if_pos b182]); (try rfl)] at jq
      exact jq
    · refine ow_iload C X27 at_185 rfl (pc' := 187) rfl ?_
      refine ow_lloadN C X27 at_187 rfl (pc' := 188) rfl ?_
      refine ow_lload C X27 at_188 rfl (pc' := 190) rfl ?_
      refine ow_lcmp C X27 at_190 (pc' := 191) rfl ?_
      refine ow_join X27 e27 (f' := (mkF m 199 #[.val (.long q0), .second, .val (.long q1), .second, .val (.long q2), .second, .val (.long q3), .second, .val (.int q4), .val (.long (own_law_j13 q0 q1 q2 q3 q4)), .second, .val (.long (own_law_j28 q0 q1 q2 q3 q4)), .second, .val (.ref a15), .val (.ref a17), .val (.int (own_prec (own_law_j13 q0 q1 q2 q3 q4) (own_law_j28 q0 q1 q2 q3 q4) q0 q1)), .val (.int (own_prec q0 q1 (own_law_j13 q0 q1 q2 q3 q4) (own_law_j28 q0 q1 q2 q3 q4))), .val (.int (own_cmp q0 (own_law_j13 q0 q1 q2 q3 q4) q1 (own_law_j28 q0 q1 q2 q3 q4))), .val (.int (own_law_j102 q0 q1 q2 q3 q4)), .val (.int (own_law_j139 q0 q1 q2 q3 q4)), .val (.int (own_law_j176 q0 q1 q2 q3 q4)), .unset, .unset] [(.int (own_law_j199 q0 q1 q2 q3 q4)), (.int (own_prec (own_law_j13 q0 q1 q2 q3 q4) (own_law_j28 q0 q1 q2 q3 q4) q0 q1))])) ?_ (fun T28 X28 e28 => ?_)
      · intro D28 jk28
        refine ow_lif_ge C X27 at_191 (pcT := 198) (pc' := 194) (by decide) (by decide) rfl (fun b191 => ?_) (fun b191 => ?_)
        · refine ow_iconst (0 : Int32) C X27 at_198 (by decide) (pc' := 199) rfl ?_
          have jq := jk28 T27 X27 e27
          rw [show (own_law_j199 q0 q1 q2 q3 q4) = (0 : Int32) from by unfold own_law_j199; (try rw [if_neg b191]); (try rfl)] at jq
          exact jq
        · refine ow_iconst (1 : Int32) C X27 at_194 (by decide) (pc' := 195) rfl ?_
          refine ow_goto C X27 at_195 (pcT := 199) (by decide) (by decide) ?_
          have jq := jk28 T27 X27 e27
          rw [show (own_law_j199 q0 q1 q2 q3 q4) = (1 : Int32) from by unfold own_law_j199; (try rw [if_pos b191]); (try rfl)] at jq
          exact jq
      refine ow_icmp_ne C X28 at_199 (pcT := 206) (pc' := 202) (by decide) (by decide) rfl (fun b199 => ?_) (fun b199 => ?_)
      · refine ow_iconst (0 : Int32) C X28 at_206 (by decide) (pc' := 207) rfl ?_
        have jq := jk29 T28 X28 e28
        rw [show (own_law_j207 q0 q1 q2 q3 q4) = (0 : Int32) from by unfold own_law_j207; (try rw [if_neg b182]); (try rw [if_neg b199]); (try rfl)] at jq
        exact jq
      · refine ow_iconst (1 : Int32) C X28 at_202 (by decide) (pc' := 203) rfl ?_
        refine ow_goto C X28 at_203 (pcT := 207) (by decide) (by decide) ?_
        have jq := jk29 T28 X28 e28
        rw [show (own_law_j207 q0 q1 q2 q3 q4) = (1 : Int32) from by unfold own_law_j207; (try rw [if_neg b182]); (try rw [if_pos b199]); (try rfl)] at jq
        exact jq
  refine ow_istore C X29 at_207 (Ls' := #[.val (.long q0), .second, .val (.long q1), .second, .val (.long q2), .second, .val (.long q3), .second, .val (.int q4), .val (.long (own_law_j13 q0 q1 q2 q3 q4)), .second, .val (.long (own_law_j28 q0 q1 q2 q3 q4)), .second, .val (.ref a15), .val (.ref a17), .val (.int (own_prec (own_law_j13 q0 q1 q2 q3 q4) (own_law_j28 q0 q1 q2 q3 q4) q0 q1)), .val (.int (own_prec q0 q1 (own_law_j13 q0 q1 q2 q3 q4) (own_law_j28 q0 q1 q2 q3 q4))), .val (.int (own_cmp q0 (own_law_j13 q0 q1 q2 q3 q4) q1 (own_law_j28 q0 q1 q2 q3 q4))), .val (.int (own_law_j102 q0 q1 q2 q3 q4)), .val (.int (own_law_j139 q0 q1 q2 q3 q4)), .val (.int (own_law_j176 q0 q1 q2 q3 q4)), .val (.int (own_law_j207 q0 q1 q2 q3 q4)), .unset]) rfl (pc' := 209) rfl ?_
  refine ow_lloadN C X29 at_209 rfl (pc' := 210) rfl ?_
  refine ow_lload C X29 at_210 rfl (pc' := 212) rfl ?_
  refine ow_lcmp C X29 at_212 (pc' := 213) rfl ?_
  refine ow_join X29 e29 (f' := (mkF m 238 #[.val (.long q0), .second, .val (.long q1), .second, .val (.long q2), .second, .val (.long q3), .second, .val (.int q4), .val (.long (own_law_j13 q0 q1 q2 q3 q4)), .second, .val (.long (own_law_j28 q0 q1 q2 q3 q4)), .second, .val (.ref a15), .val (.ref a17), .val (.int (own_prec (own_law_j13 q0 q1 q2 q3 q4) (own_law_j28 q0 q1 q2 q3 q4) q0 q1)), .val (.int (own_prec q0 q1 (own_law_j13 q0 q1 q2 q3 q4) (own_law_j28 q0 q1 q2 q3 q4))), .val (.int (own_cmp q0 (own_law_j13 q0 q1 q2 q3 q4) q1 (own_law_j28 q0 q1 q2 q3 q4))), .val (.int (own_law_j102 q0 q1 q2 q3 q4)), .val (.int (own_law_j139 q0 q1 q2 q3 q4)), .val (.int (own_law_j176 q0 q1 q2 q3 q4)), .val (.int (own_law_j207 q0 q1 q2 q3 q4)), .unset] [(.int (own_law_j238 q0 q1 q2 q3 q4))])) ?_ (fun T31 X31 e31 => ?_)
  · intro D31 jk31
    refine ow_lif_ne C X29 at_213 (pcT := 233) (pc' := 216) (by decide) (by decide) rfl (fun b213 => ?_) (fun b213 => ?_)
    · refine ow_iconst (1 : Int32) C X29 at_233 (by decide) (pc' := 234) rfl ?_
      refine ow_goto C X29 at_234 (pcT := 238) (by decide) (by decide) ?_
      have jq := jk31 T29 X29 e29
      rw [show (own_law_j238 q0 q1 q2 q3 q4) = (1 : Int32) from by unfold own_law_j238; (try rw [if_neg b213]); (try rfl)] at jq
      exact jq
    · refine ow_iload C X29 at_216 rfl (pc' := 218) rfl ?_
      refine ow_lloadN C X29 at_218 rfl (pc' := 219) rfl ?_
      refine ow_lload C X29 at_219 rfl (pc' := 221) rfl ?_
      refine ow_lcmp C X29 at_221 (pc' := 222) rfl ?_
      refine ow_join X29 e29 (f' := (mkF m 230 #[.val (.long q0), .second, .val (.long q1), .second, .val (.long q2), .second, .val (.long q3), .second, .val (.int q4), .val (.long (own_law_j13 q0 q1 q2 q3 q4)), .second, .val (.long (own_law_j28 q0 q1 q2 q3 q4)), .second, .val (.ref a15), .val (.ref a17), .val (.int (own_prec (own_law_j13 q0 q1 q2 q3 q4) (own_law_j28 q0 q1 q2 q3 q4) q0 q1)), .val (.int (own_prec q0 q1 (own_law_j13 q0 q1 q2 q3 q4) (own_law_j28 q0 q1 q2 q3 q4))), .val (.int (own_cmp q0 (own_law_j13 q0 q1 q2 q3 q4) q1 (own_law_j28 q0 q1 q2 q3 q4))), .val (.int (own_law_j102 q0 q1 q2 q3 q4)), .val (.int (own_law_j139 q0 q1 q2 q3 q4)), .val (.int (own_law_j176 q0 q1 q2 q3 q4)), .val (.int (own_law_j207 q0 q1 q2 q3 q4)), .unset] [(.int (own_law_j230 q0 q1 q2 q3 q4)), (.int (own_prec (own_law_j13 q0 q1 q2 q3 q4) (own_law_j28 q0 q1 q2 q3 q4) q0 q1))])) ?_ (fun T30 X30 e30 => ?_)
      · intro D30 jk30
        refine ow_lif_ge C X29 at_222 (pcT := 229) (pc' := 225) (by decide) (by decide) rfl (fun b222 => ?_) (fun b222 => ?_)
        · refine ow_iconst (0 : Int32) C X29 at_229 (by decide) (pc' := 230) rfl ?_
          have jq := jk30 T29 X29 e29
          rw [show (own_law_j230 q0 q1 q2 q3 q4) = (0 : Int32) from by unfold own_law_j230; (try rw [if_neg b222]); (try rfl)] at jq
          exact jq
        · refine ow_iconst (1 : Int32) C X29 at_225 (by decide) (pc' := 226) rfl ?_
          refine ow_goto C X29 at_226 (pcT := 230) (by decide) (by decide) ?_
          have jq := jk30 T29 X29 e29
          rw [show (own_law_j230 q0 q1 q2 q3 q4) = (1 : Int32) from by unfold own_law_j230; (try rw [if_pos b222]); (try rfl)] at jq
          exact jq
      refine ow_icmp_ne C X30 at_230 (pcT := 237) (pc' := 233) (by decide) (by decide) rfl (fun b230 => ?_) (fun b230 => ?_)
      · refine ow_iconst (0 : Int32) C X30 at_237 (by decide) (pc' := 238) rfl ?_
        have jq := jk31 T30 X30 e30
        rw [show (own_law_j238 q0 q1 q2 q3 q4) = (0 : Int32) from by unfold own_law_j238; (try rw [if_pos b213]); (try rw [if_neg b230]); (try rfl)] at jq
        exact jq
      · refine ow_iconst (1 : Int32) C X30 at_233 (by decide) (pc' := 234) rfl ?_
        refine ow_goto C X30 at_234 (pcT := 238) (by decide) (by decide) ?_
        have jq := jk31 T30 X30 e30
        rw [show (own_law_j238 q0 q1 q2 q3 q4) = (1 : Int32) from by unfold own_law_j238; (try rw [if_pos b213]); (try rw [if_pos b230]); (try rfl)] at jq
        exact jq
  refine ow_istore C X31 at_238 (Ls' := #[.val (.long q0), .second, .val (.long q1), .second, .val (.long q2), .second, .val (.long q3), .second, .val (.int q4), .val (.long (own_law_j13 q0 q1 q2 q3 q4)), .second, .val (.long (own_law_j28 q0 q1 q2 q3 q4)), .second, .val (.ref a15), .val (.ref a17), .val (.int (own_prec (own_law_j13 q0 q1 q2 q3 q4) (own_law_j28 q0 q1 q2 q3 q4) q0 q1)), .val (.int (own_prec q0 q1 (own_law_j13 q0 q1 q2 q3 q4) (own_law_j28 q0 q1 q2 q3 q4))), .val (.int (own_cmp q0 (own_law_j13 q0 q1 q2 q3 q4) q1 (own_law_j28 q0 q1 q2 q3 q4))), .val (.int (own_law_j102 q0 q1 q2 q3 q4)), .val (.int (own_law_j139 q0 q1 q2 q3 q4)), .val (.int (own_law_j176 q0 q1 q2 q3 q4)), .val (.int (own_law_j207 q0 q1 q2 q3 q4)), .val (.int (own_law_j238 q0 q1 q2 q3 q4))]) rfl (pc' := 240) rfl ?_
  refine ow_iload C X31 at_240 rfl (pc' := 242) rfl ?_
  refine ow_if_eq C X31 at_242 (pcT := 264) (pc' := 245) (by decide) (by decide) rfl (fun b242 => ?_) (fun b242 => ?_)
  · refine ow_iconst (0 : Int32) C X31 at_264 (by decide) (pc' := 265) rfl ?_
    exact ow_retZ C X31 at_265 (Nat.le_of_ble_eq_true rfl) (Nat.le_of_ble_eq_true rfl) (Or.inl rfl) ⟨(show some (Value.int (0 : Int32)) = some (Value.int (own_law q0 q1 q2 q3 q4)) from congrArg (fun z => some (Value.int z)) (by unfold own_law; rw [if_pos b242])), Nn18⟩
  · refine ow_iload C X31 at_245 rfl (pc' := 247) rfl ?_
    refine ow_if_eq C X31 at_247 (pcT := 264) (pc' := 250) (by decide) (by decide) rfl (fun b247 => ?_) (fun b247 => ?_)
    · refine ow_iconst (0 : Int32) C X31 at_264 (by decide) (pc' := 265) rfl ?_
      exact ow_retZ C X31 at_265 (Nat.le_of_ble_eq_true rfl) (Nat.le_of_ble_eq_true rfl) (Or.inl rfl) ⟨(show some (Value.int (0 : Int32)) = some (Value.int (own_law q0 q1 q2 q3 q4)) from congrArg (fun z => some (Value.int z)) (by unfold own_law; rw [if_neg b242, if_pos b247])), Nn18⟩
    · refine ow_iload C X31 at_250 rfl (pc' := 252) rfl ?_
      refine ow_if_eq C X31 at_252 (pcT := 264) (pc' := 255) (by decide) (by decide) rfl (fun b252 => ?_) (fun b252 => ?_)
      · refine ow_iconst (0 : Int32) C X31 at_264 (by decide) (pc' := 265) rfl ?_
        exact ow_retZ C X31 at_265 (Nat.le_of_ble_eq_true rfl) (Nat.le_of_ble_eq_true rfl) (Or.inl rfl) ⟨(show some (Value.int (0 : Int32)) = some (Value.int (own_law q0 q1 q2 q3 q4)) from congrArg (fun z => some (Value.int z)) (by unfold own_law; rw [if_neg b242, if_neg b247, if_pos b252])), Nn18⟩
      · refine ow_iload C X31 at_255 rfl (pc' := 257) rfl ?_
        refine ow_if_eq C X31 at_257 (pcT := 264) (pc' := 260) (by decide) (by decide) rfl (fun b257 => ?_) (fun b257 => ?_)
        · refine ow_iconst (0 : Int32) C X31 at_264 (by decide) (pc' := 265) rfl ?_
          exact ow_retZ C X31 at_265 (Nat.le_of_ble_eq_true rfl) (Nat.le_of_ble_eq_true rfl) (Or.inl rfl) ⟨(show some (Value.int (0 : Int32)) = some (Value.int (own_law q0 q1 q2 q3 q4)) from congrArg (fun z => some (Value.int z)) (by unfold own_law; rw [if_neg b242, if_neg b247, if_neg b252, if_pos b257])), Nn18⟩
        · refine ow_iconst (1 : Int32) C X31 at_260 (by decide) (pc' := 261) rfl ?_
          refine ow_goto C X31 at_261 (pcT := 265) (by decide) (by decide) ?_
          exact ow_retZ C X31 at_265 (Nat.le_of_ble_eq_true rfl) (Nat.le_of_ble_eq_true rfl) (Or.inr rfl) ⟨(show some (Value.int (1 : Int32)) = some (Value.int (own_law q0 q1 q2 q3 q4)) from congrArg (fun z => some (Value.int z)) (by unfold own_law; rw [if_neg b242, if_neg b247, if_neg b252, if_neg b257])), Nn18⟩
theorem own_l1 : ((-1 : Int32) = 0) = False := by decide
theorem own_l2 : ((1 : Int32) = 0) = False := by decide
theorem own_tri (a c : Int64) : (a < c ∧ ¬ c < a ∧ ¬ a = c ∧ ¬ c = a) ∨ (¬ a < c ∧ c < a ∧ ¬ a = c ∧ ¬ c = a) ∨ (¬ a < c ∧ ¬ c < a ∧ a = c) := by
  simp only [Int64.lt_iff_toInt_lt, ← Int64.toInt_inj]; omega
theorem own_law_true (q0 : Int64) (q1 : Int64) (q2 : Int64) (q3 : Int64) (q4 : Int32) : own_law q0 q1 q2 q3 q4 = 1 := by
  unfold own_law own_law_j139 own_law_j176 own_law_j207 own_law_j238 own_law_j102 own_law_j116 own_law_j131 own_law_j168 own_law_j199 own_law_j230
  generalize own_law_j13 q0 q1 q2 q3 q4 = c
  generalize own_law_j28 q0 q1 q2 q3 q4 = d
  unfold own_prec own_cmp own_lcmp
  rcases own_tri q0 c with ⟨h1, h2, h3, h4⟩ | ⟨h1, h2, h3, h4⟩ | ⟨h1, h2, h3⟩
  · simp only [h1, h2, h3, h4, if_true, if_false, own_l1, own_l2]; decide
  · simp only [h1, h2, h3, h4, if_true, if_false, own_l1, own_l2]; decide
  · subst h3
    rcases own_tri q1 d with ⟨g1, g2, g3, g4⟩ | ⟨g1, g2, g3, g4⟩ | ⟨g1, g2, g3⟩
    · simp only [h1, g1, g2, g3, g4, if_true, if_false]; decide
    · simp only [h1, g1, g2, g3, g4, if_true, if_false]; decide
    · subst g3; simp only [h1, g1, if_true, if_false]; decide
set_option maxRecDepth 65536 in
set_option maxHeartbeats 40000000 in
theorem comes_1 {Post : Tables → Env → Array Value → State → Outcome → State → Prop} (hpost : ∀ tb e args s v u, (limb_1_1.after args s (.returned v) u = true ∧ limb_1_2.after args s (.returned v) u = true ∧ True) → FrameEnd s (.returned v) u (Jvm.fieldLocs frame_1_writes args s ++ Jvm.arrayLocs frame_1_arrays args s ++ Jvm.staticLocs frame_1_statics s) 16 128 → Post tb e args s (.returned v) u) :
    ArmFor flags0 classFile x code maxLocals ret World_1 tables_1 room_1 Calls_1 rest_1 Pre_1 Post := by
  intro l hfl _ _ p e ha hc hk s m args below hf hA hF happ hP
  obtain ⟨hcalls, hrest, hpre⟩ := hP
  obtain ⟨-, -, -, hnamed, -, -, -, hat⟩ := (Spec.applies_iff hf).mp happ
  obtain ⟨hg, hn⟩ := and_e (Cond.before_iff.mp (show (Jvm.Cond.and given_1 narrow_1).before args s = true from hpre))
  obtain ⟨h1, hg0⟩ := and_e hg
  obtain ⟨ha0, hg1⟩ := and_e hg0
  obtain ⟨ha1, hg2⟩ := and_e hg1
  obtain ⟨ha2, hg3⟩ := and_e hg2
  obtain ⟨ha3, hg4⟩ := and_e hg3
  obtain ⟨w0, w1, w2, w3, w4, rfl⟩ : ∃ w0 w1 w2 w3 w4 : Value, args = #[w0, w1, w2, w3, w4] := by
    have hs : args.size = 5 := by simpa [Cond.value, given_1] using h1
    obtain ⟨L⟩ := args
    match L, hs with
    | [w0, w1, w2, w3, w4], _ => exact ⟨w0, w1, w2, w3, w4, rfl⟩
  have hw := fun d (hd : d ∈ tables_1) => atoms_spec (ws := Jvm.Cond.code x code maxLocals ret :: tables_1) hat d (List.mem_cons_of_mem _ hd)
  obtain ⟨q0, ev0⟩ := isL_v ha0
  obtain rfl : w0 = (.long q0) := Option.some.inj ev0
  obtain ⟨q1, ev1⟩ := isL_v ha1
  obtain rfl : w1 = (.long q1) := Option.some.inj ev1
  obtain ⟨q2, ev2⟩ := isL_v ha2
  obtain rfl : w2 = (.long q2) := Option.some.inj ev2
  obtain ⟨q3, ev3⟩ := isL_v ha3
  obtain rfl : w3 = (.long q3) := Option.some.inj ev3
  obtain ⟨q4, ev4⟩ := is_v hg4
  obtain rfl : w4 = (.int q4) := Option.some.inj ev4
  obtain ⟨n, o, h1, h2, h3, _, L, rfl, ⟨rfl, N⟩, hq⟩ := rm_law l s _ hw q0 q1 q2 q3 q4 s.heap s.heap.size (Nat.le_refl _) tables_1 p e ha hc hk s m _ below hf ((Spec.applies_iff_loose hf).mp happ).1 ⟨rfl, State.Warmed39.refl s, rfl⟩ trivial
  rw [own_law_true q0 q1 q2 q3 q4] at *
  refine ⟨n, _, h1, h2, h3, hpost _ _ _ _ _ _ ⟨Cond.after_iff.mpr rfl, Cond.after_iff.mpr (eq_i res_at (Term.int_eval (1)) rfl), trivial⟩ ⟨hq.1, hq.2.1, (hq.2.2.sift fun y hy => Or.inr (N y hy)).mono (by decide) (by decide)⟩⟩
theorem main_1_1 : Claimed_1_1 := comes_1 fun _ _ _ _ _ _ h hF => ⟨h.1, hF⟩
theorem main_1_2 : Claimed_1_2 := comes_1 fun _ _ _ _ _ _ h hF => ⟨h.2.1, hF⟩
end Jvm.Pilot.@@N@@
namespace Jvm.Pilot.@@N@@
open Jvm Jvm.ClassFile Sem Op Lib Jvm.Free Jvm.Stand Jvm.Pilot.@@N@@.Jvm.D
/-! MADE BY PROGRAM (witnessworld.py) out of the Statement's table words and the real class files: 14 classes; the members and pool entries that the words name. The judged class is class 1, her method 1. -/
namespace start1
open Jvm.ClassFile
def u (s : String) : CpInfo := .utf8 (stringToUtf16 s)
/-- a pool by its gaps: so many unusable entries, then the entry; so many at the end -/
def gap : Nat → List CpInfo → List CpInfo
  | 0, r => r
  | n + 1, r => .unusable :: gap n r
def poolList (es : List (Nat × CpInfo)) (last : Nat) : List CpInfo := es.foldr (fun e r => gap e.1 (e.2 :: r)) (gap last [])
def pool (es : List (Nat × CpInfo)) (last : Nat) : Array CpInfo := ⟨poolList es last⟩
def fileOf (pool : Array CpInfo) (this : Nat) (attrs : Array Attribute := #[]) (ms : Array MethodInfo := #[]) (fl : Nat := 33) (sup : Nat := 0) (ifs : Array Nat := #[]) (fds : Array FieldInfo := #[]) : ClassFile where
  minorVersion := 0
  majorVersion := 65
  constantPool := pool
  accessFlags := fl
  thisClass := this
  superClass := sup
  interfaces := ifs
  fields := fds
  methods := ms
  attributes := attrs
def plain (name : String) (sup : Option ClassId) : Class where
  name := name
  kind := .ordinary
  loader := none
  accessFlags := 33
  super := sup
  interfaces := #[]
  cf := none
  fields := #[]
  methods := #[]
  instanceTypes := #[]
  staticTypes := #[]
  resolved := #[]
  callSites := []
  init := .initialized
  statics := none
  mirror := none

def pool0 : Array CpInfo := pool [(5, u "<init>"), (0, u "()V"), (1, .class_ 10), (1, u "java/lang/Object")] 113

def k0c0 : Code := { maxStack := 0, maxLocals := 1, code := object_method_1_code, exceptionTable := #[], attributes := #[] }
def k0m0 : Method := { name := "<init>", desc := "()V", sig := { parameters := [], returnType := none }, accessFlags := 1, code := some k0c0 }
/-- java/lang/Object -/
def k0 : Class := { plain "java/lang/Object" none with
  accessFlags := 33
  interfaces := #[]
  cf := some (fileOf pool0 8 #[] #[{ accessFlags := 1, nameIndex := 5, descriptorIndex := 6, attributes := #[] }] 33 0 #[] #[])
  fields := #[]
  methods := #[k0m0]
  instanceTypes := #[]
  staticTypes := #[]
  resolved := Array.replicate 124 none
  statics := none }

def pool1 : Array CpInfo := pool [(2, .class_ 4), (1, u "java/lang/Object"), (0, u "<init>"), (0, u "()V"), (0, .class_ 8), (0, u "com/example/offset/offset/server/Delay"), (0, .methodref 7 10), (0, .nameAndType 5 11), (0, u "(JJ)V"), (0, .methodref 7 13), (0, .nameAndType 14 15), (0, u "precedes"), (0, u "(JJ)Z"), (0, .methodref 7 17), (0, .nameAndType 18 19), (0, u "compareTo"), (0, u "(Lcom/example/offset/offset/server/Delay;)I"), (0, .class_ 21), (0, u "com/example/offset/offset/server/DelayPrecedesPinLaw"), (2, u "law"), (0, u "(JJJJI)Z")] 3

def k1m0 : Method := { name := "<init>", desc := "()V", sig := { parameters := [], returnType := none }, accessFlags := 1, code := none }
def k1c1 : Code := { maxStack := 6, maxLocals := 23, code := code, exceptionTable := #[], attributes := #[] }
def k1m1 : Method := { name := "law", desc := "(JJJJI)Z", sig := { parameters := [.long, .long, .long, .long, .int], returnType := some .boolean }, accessFlags := 9, code := some k1c1 }
/-- com/example/offset/offset/server/DelayPrecedesPinLaw -/
def k1 : Class := { plain "com/example/offset/offset/server/DelayPrecedesPinLaw" (some 0) with
  accessFlags := 49
  interfaces := #[]
  cf := some (fileOf pool1 20 #[] #[{ accessFlags := 1, nameIndex := 5, descriptorIndex := 6, attributes := #[] }, { accessFlags := 9, nameIndex := 24, descriptorIndex := 25, attributes := #[] }] 49 2 #[] #[])
  fields := #[]
  methods := #[k1m0, k1m1]
  instanceTypes := #[]
  staticTypes := #[]
  resolved := Array.replicate 29 none
  statics := none }

def pool2 : Array CpInfo := pool [(1, .class_ 2), (0, u "java/lang/Comparable"), (0, .class_ 4), (0, u "java/lang/Object")] 7

/-- java/lang/Comparable -/
def k2 : Class := { plain "java/lang/Comparable" (some 0) with
  accessFlags := 1537
  interfaces := #[]
  cf := some (fileOf pool2 1 #[] #[] 1537 3 #[] #[])
  fields := #[]
  methods := #[]
  instanceTypes := #[]
  staticTypes := #[]
  resolved := Array.replicate 12 none
  statics := none }

def pool3 : Array CpInfo := pool [(1, .methodref 2 3), (0, .class_ 4), (0, .nameAndType 5 6), (0, u "java/lang/Object"), (0, u "<init>"), (0, u "()V"), (0, .fieldref 8 9), (0, .class_ 10), (0, .nameAndType 11 12), (0, u "com/example/offset/offset/server/Delay"), (0, u "dueAt"), (0, u "J"), (0, .fieldref 8 14), (0, .nameAndType 15 12), (0, u "id"), (0, .methodref 17 18), (0, .class_ 19), (0, .nameAndType 20 21), (0, u "java/lang/Long"), (0, u "compare"), (0, u "(JJ)I"), (12, u "compareTo"), (0, u "(Lcom/example/offset/offset/server/Delay;)I"), (0, .class_ 37), (0, u "java/lang/Comparable"), (0, u "(JJ)V"), (3, u "precedes"), (0, u "(JJ)Z")] 11

def k3c0 : Code := { maxStack := 3, maxLocals := 5, code := prog_31_method_1_code, exceptionTable := #[], attributes := #[] }
def k3m0 : Method := { name := "<init>", desc := "(JJ)V", sig := { parameters := [.long, .long], returnType := none }, accessFlags := 0, code := some k3c0 }
def k3c1 : Code := { maxStack := 4, maxLocals := 5, code := prog_31_method_4_code, exceptionTable := #[], attributes := #[] }
def k3m1 : Method := { name := "precedes", desc := "(JJ)Z", sig := { parameters := [.long, .long], returnType := some .boolean }, accessFlags := 0, code := some k3c1 }
def k3c2 : Code := { maxStack := 4, maxLocals := 3, code := prog_31_method_5_code, exceptionTable := #[], attributes := #[] }
def k3m2 : Method := { name := "compareTo", desc := "(Lcom/example/offset/offset/server/Delay;)I", sig := { parameters := [(.object "com/example/offset/offset/server/Delay")], returnType := some .int }, accessFlags := 1, code := some k3c2 }
/-- com/example/offset/offset/server/Delay -/
def k3 : Class := { plain "com/example/offset/offset/server/Delay" (some 0) with
  accessFlags := 48
  interfaces := #[2]
  cf := some (fileOf pool3 8 #[] #[{ accessFlags := 0, nameIndex := 5, descriptorIndex := 38, attributes := #[] }, { accessFlags := 0, nameIndex := 42, descriptorIndex := 43, attributes := #[] }, { accessFlags := 1, nameIndex := 34, descriptorIndex := 35, attributes := #[] }] 48 2 #[36] #[{ accessFlags := 18, nameIndex := 11, descriptorIndex := 12, attributes := #[] }, { accessFlags := 18, nameIndex := 15, descriptorIndex := 12, attributes := #[] }])
  fields := #[{ name := "dueAt", type := .long, accessFlags := 18, slot := 0, constantValue := 0 }, { name := "id", type := .long, accessFlags := 18, slot := 1, constantValue := 0 }]
  methods := #[k3m0, k3m1, k3m2]
  instanceTypes := #[.long, .long]
  staticTypes := #[]
  resolved := Array.replicate 55 none
  statics := none }

def pool4 : Array CpInfo := pool [(1, .class_ 2), (0, u "java/io/Serializable"), (0, .class_ 4), (0, u "java/lang/Object")] 2

/-- java/io/Serializable -/
def k4 : Class := { plain "java/io/Serializable" (some 0) with
  accessFlags := 1537
  interfaces := #[]
  cf := some (fileOf pool4 1 #[] #[] 1537 3 #[] #[])
  fields := #[]
  methods := #[]
  instanceTypes := #[]
  staticTypes := #[]
  resolved := Array.replicate 7 none
  statics := none }

def pool5 : Array CpInfo := pool [(2, .class_ 4), (1, u "java/lang/Object"), (0, u "<init>"), (0, u "()V"), (1, .class_ 10), (1, u "java/lang/Number"), (2, .class_ 14), (0, u "java/io/Serializable"), (0, u "serialVersionUID"), (0, u "J")] 20

def k5m0 : Method := { name := "<init>", desc := "()V", sig := { parameters := [], returnType := none }, accessFlags := 1, code := none }
/-- java/lang/Number -/
def k5 : Class := { plain "java/lang/Number" (some 0) with
  accessFlags := 1057
  interfaces := #[4]
  cf := some (fileOf pool5 8 #[] #[{ accessFlags := 1, nameIndex := 5, descriptorIndex := 6, attributes := #[] }] 1057 2 #[13] #[{ accessFlags := 26, nameIndex := 15, descriptorIndex := 16, attributes := #[] }])
  fields := #[{ name := "serialVersionUID", type := .long, accessFlags := 26, slot := 0, constantValue := 0 }]
  methods := #[k5m0]
  instanceTypes := #[]
  staticTypes := #[.long]
  resolved := Array.replicate 37 none
  statics := none }

def pool6 : Array CpInfo := pool [(1, .class_ 2), (0, u "java/lang/constant/Constable"), (0, .class_ 4), (0, u "java/lang/Object")] 6

/-- java/lang/constant/Constable -/
def k6 : Class := { plain "java/lang/constant/Constable" (some 0) with
  accessFlags := 1537
  interfaces := #[]
  cf := some (fileOf pool6 1 #[] #[] 1537 3 #[] #[])
  fields := #[]
  methods := #[]
  instanceTypes := #[]
  staticTypes := #[]
  resolved := Array.replicate 11 none
  statics := none }

def pool7 : Array CpInfo := pool [(1, .class_ 2), (0, u "java/lang/constant/ConstantDesc"), (0, .class_ 4), (0, u "java/lang/Object")] 32

/-- java/lang/constant/ConstantDesc -/
def k7 : Class := { plain "java/lang/constant/ConstantDesc" (some 0) with
  accessFlags := 1537
  interfaces := #[]
  cf := some (fileOf pool7 1 #[] #[] 1537 3 #[] #[])
  fields := #[]
  methods := #[]
  instanceTypes := #[]
  staticTypes := #[]
  resolved := Array.replicate 37 none
  statics := none }

def pool8 : Array CpInfo := pool [(1, .class_ 2), (0, u "java/lang/Long"), (232, .class_ 237), (1, u "java/lang/Long$LongCache"), (33, .class_ 272), (0, u "java/lang/Number"), (2, u "value"), (0, u "J"), (27, u "compare"), (0, u "(JJ)I"), (55, u "TYPE"), (0, u "Ljava/lang/Class;"), (0, .class_ 364), (0, u "java/lang/Comparable"), (0, .class_ 366), (0, u "java/lang/constant/Constable"), (0, .class_ 368), (0, u "java/lang/constant/ConstantDesc"), (0, u "MIN_VALUE"), (1, u "MAX_VALUE"), (4, u "SIZE"), (0, u "I"), (1, u "BYTES"), (1, u "serialVersionUID")] 142

def k8c0 : Code := { maxStack := 4, maxLocals := 4, code := jdk_35_method_42_code, exceptionTable := #[], attributes := #[] }
def k8m0 : Method := { name := "compare", desc := "(JJ)I", sig := { parameters := [.long, .long], returnType := some .int }, accessFlags := 9, code := some k8c0 }
/-- java/lang/Long -/
def k8 : Class := { plain "java/lang/Long" (some 5) with
  accessFlags := 49
  interfaces := #[2, 6, 7]
  cf := some (fileOf pool8 1 #[.nestMembers #[235]] #[{ accessFlags := 9, nameIndex := 304, descriptorIndex := 305, attributes := #[] }] 49 271 #[363, 365, 367] #[{ accessFlags := 25, nameIndex := 369, descriptorIndex := 276, attributes := #[] }, { accessFlags := 25, nameIndex := 371, descriptorIndex := 276, attributes := #[] }, { accessFlags := 25, nameIndex := 361, descriptorIndex := 362, attributes := #[] }, { accessFlags := 18, nameIndex := 275, descriptorIndex := 276, attributes := #[] }, { accessFlags := 25, nameIndex := 376, descriptorIndex := 377, attributes := #[] }, { accessFlags := 25, nameIndex := 379, descriptorIndex := 377, attributes := #[] }, { accessFlags := 26, nameIndex := 381, descriptorIndex := 276, attributes := #[] }])
  fields := #[{ name := "MIN_VALUE", type := .long, accessFlags := 25, slot := 0, constantValue := 0 }, { name := "MAX_VALUE", type := .long, accessFlags := 25, slot := 1, constantValue := 0 }, { name := "TYPE", type := (.object "java/lang/Class"), accessFlags := 25, slot := 2, constantValue := 0 }, { name := "value", type := .long, accessFlags := 18, slot := 0, constantValue := 0 }, { name := "SIZE", type := .int, accessFlags := 25, slot := 3, constantValue := 0 }, { name := "BYTES", type := .int, accessFlags := 25, slot := 4, constantValue := 0 }, { name := "serialVersionUID", type := .long, accessFlags := 26, slot := 5, constantValue := 0 }]
  methods := #[k8m0]
  instanceTypes := #[.long]
  staticTypes := #[.long, .long, (.object "java/lang/Class"), .int, .int, .long]
  resolved := Array.replicate 524 none
  statics := none }

def pool9 : Array CpInfo := pool [(1, u "java/lang/Cloneable"), (0, .class_ 1), (0, u "java/lang/Object"), (0, .class_ 3)] 3

/-- java/lang/Cloneable -/
def k9 : Class := { plain "java/lang/Cloneable" (some 0) with
  accessFlags := 1537
  interfaces := #[]
  cf := some (fileOf pool9 2 #[] #[] 1537 4 #[] #[])
  fields := #[]
  methods := #[]
  instanceTypes := #[]
  staticTypes := #[]
  resolved := Array.replicate 8 none
  statics := none }

/-- the primitive byte -/
def k10 : Class := { plain "byte" none with kind := .primitive 'B', accessFlags := 0x411 }
/-- [B -/
def k11 : Class := { plain "[B" (some 0) with kind := .array 10 .byte, interfaces := #[9, 4], accessFlags := 1041 }

/-- the primitive int -/
def k12 : Class := { plain "int" none with kind := .primitive 'I', accessFlags := 0x411 }
/-- [I -/
def k13 : Class := { plain "[I" (some 0) with kind := .array 12 .int, interfaces := #[9, 4], accessFlags := 1041 }

def heap : Heap := #[]
def classes : Array Class := #[k0, k1, k2, k3, k4, k5, k6, k7, k8, k9, k10, k11, k12, k13]
def interned : List (Array UInt16 × Addr) := []
def slotsUsed : Nat := 0
def theMethod : MethodId := ⟨1, 1⟩
def args0 : Array Value := #[.long 5, .long 5, .long 5, .long 5, .int 5]
def aboutOver (below : List Frame) : State where
  vm := { classes := classes, interned := interned.toArray }
  heap := heap
  slotsUsed := slotsUsed
  threads := #[{ frames := .invoking theMethod args0 :: below }]
def below0 : List Frame := [.native { method := ⟨0, 0⟩, args := #[] }]
def about1 : State := aboutOver below0
def p0 : Program := .bare "" "" ""
def e0 : Env := launch0.env 0 0 0
theorem w_frames : about1.frames = Frame.invoking theMethod args0 :: below0 := rfl
set_option maxRecDepth 65536 in
theorem w_args : argsFit about1.vm theMethod args0 = true := by decide +kernel
set_option maxRecDepth 65536 in
theorem w_heap : heapFits about1 = true := by decide +kernel
set_option maxRecDepth 65536 in
theorem w_runnable : about1.curStatus? = some .runnable := by decide +kernel
set_option maxRecDepth 65536 in
theorem w_alone : about1.alone = true := by decide +kernel
set_option maxRecDepth 65536 in
theorem w_named : about1.methodNamed? x = some theMethod := by decide +kernel
set_option maxRecDepth 65536 in
theorem w_hears : about1.hears theMethod below0 = true := by decide +kernel
set_option maxRecDepth 65536 in
theorem w_ripe : about1.ripe theMethod args0 below0 = true := by decide +kernel
theorem w_running : about1.status = .running := rfl
set_option maxRecDepth 65536 in
theorem w_room : about1.hasRoom e0.platform room_1 = true :=
  launch0.hasRoom_least _ room_1 (by decide +kernel) (by decide +kernel) (by decide +kernel) (by decide +kernel) (by decide +kernel) (by decide +kernel)
theorem allAtoms_all (ts : List Jvm.Cond) (a : Array Jvm.Value) (st : Jvm.State) : (allAtoms ts).before a st = ts.all (fun c => c.before a st) := by
  induction ts with
  | nil => rfl
  | cons c t ih =>
    show (Jvm.Cond.and c (allAtoms t)).before a st = _
    rw [Jvm.Cond.before_and, ih, List.all_cons]
def words1 : List Jvm.Cond := Jvm.Cond.code x code maxLocals ret :: tables_1
/-- a 'code' word, met by the world's own term for the bytes: nothing is compared byte by byte -/
theorem code_word {y : MethodName} {bytes : ByteArray} {mx : Nat} {rt : Option FieldType} {a : Array Value} {s : State} {m : MethodId} {meth : Method} {c : Code} (h1 : s.methodNamed? y = some m) (h2 : s.vm.method? m = some meth) (h3 : meth.code = some c) (h4 : c.code = bytes)
    (h5 : (c.maxLocals == mx && c.exceptionTable.isEmpty && decide (c.maxStack ≤ mostOperands) && decide (meth.sig.returnType = rt) && !meth.locks && decide (parseMethodDescriptor y.desc = some meth.sig)) = true) : (Jvm.Cond.code y bytes mx rt).before a s = true := by
  simp only [Bool.and_eq_true, beq_iff_eq, Bool.not_eq_true', decide_eq_true_eq] at h5
  obtain ⟨⟨⟨⟨⟨g1, g2⟩, g3⟩, g4⟩, g5⟩, g6⟩ := h5
  simp [Cond.before, Cond.holds, Cond.value, h1, h2, h3, h4, g1, g2, g3, g4, g5, g6]
def isCode : Jvm.Cond → Bool
  | .code _ _ _ _ => true
  | _ => false
theorem all_split {L : List Jvm.Cond} {P : Jvm.Cond → Bool} (h1 : L.all (fun c => isCode c || P c) = true) (h2 : ∀ c ∈ L.filter isCode, P c = true) : L.all P = true := by
  refine List.all_eq_true.mpr fun c hc => ?_
  have h := List.all_eq_true.mp h1 c hc
  rcases Bool.eq_false_or_eq_true (isCode c) with hi | hi
  · exact h2 c (List.mem_filter.mpr ⟨hc, hi⟩)
  · simpa [hi] using h
set_option maxRecDepth 65536 in
theorem w_c0 : (Jvm.Cond.code x code maxLocals ret).before args0 about1 = true := code_word (m := ⟨1, 1⟩) (meth := k1m1) (c := k1c1) (by decide +kernel) rfl rfl rfl (by decide +kernel)
set_option maxRecDepth 65536 in
theorem w_c1 : (Jvm.Cond.code ({ cls := "com/example/offset/offset/server/Delay", name := "<init>", desc := "(JJ)V" } : Jvm.MethodName) prog_31_method_1_code (5 : Nat) (Option.none : Option Jvm.ClassFile.FieldType)).before args0 about1 = true := code_word (m := ⟨3, 0⟩) (meth := k3m0) (c := k3c0) (by decide +kernel) rfl rfl rfl (by decide +kernel)
set_option maxRecDepth 65536 in
theorem w_c2 : (Jvm.Cond.code ({ cls := "java/lang/Object", name := "<init>", desc := "()V" } : Jvm.MethodName) object_method_1_code (1 : Nat) (Option.none : Option Jvm.ClassFile.FieldType)).before args0 about1 = true := code_word (m := ⟨0, 0⟩) (meth := k0m0) (c := k0c0) (by decide +kernel) rfl rfl rfl (by decide +kernel)
set_option maxRecDepth 65536 in
theorem w_c3 : (Jvm.Cond.code ({ cls := "com/example/offset/offset/server/Delay", name := "precedes", desc := "(JJ)Z" } : Jvm.MethodName) prog_31_method_4_code (5 : Nat) (Option.some Jvm.ClassFile.FieldType.boolean)).before args0 about1 = true := code_word (m := ⟨3, 1⟩) (meth := k3m1) (c := k3c1) (by decide +kernel) rfl rfl rfl (by decide +kernel)
set_option maxRecDepth 65536 in
theorem w_c4 : (Jvm.Cond.code ({ cls := "com/example/offset/offset/server/Delay", name := "compareTo", desc := "(Lcom/example/offset/offset/server/Delay;)I" } : Jvm.MethodName) prog_31_method_5_code (3 : Nat) (Option.some Jvm.ClassFile.FieldType.int)).before args0 about1 = true := code_word (m := ⟨3, 2⟩) (meth := k3m2) (c := k3c2) (by decide +kernel) rfl rfl rfl (by decide +kernel)
set_option maxRecDepth 65536 in
theorem w_c5 : (Jvm.Cond.code ({ cls := "java/lang/Long", name := "compare", desc := "(JJ)I" } : Jvm.MethodName) jdk_35_method_42_code (4 : Nat) (Option.some Jvm.ClassFile.FieldType.int)).before args0 about1 = true := code_word (m := ⟨8, 0⟩) (meth := k8m0) (c := k8c0) (by decide +kernel) rfl rfl rfl (by decide +kernel)
def codes1 : List Jvm.Cond := [Jvm.Cond.code x code maxLocals ret, Jvm.Cond.code ({ cls := "com/example/offset/offset/server/Delay", name := "<init>", desc := "(JJ)V" } : Jvm.MethodName) prog_31_method_1_code (5 : Nat) (Option.none : Option Jvm.ClassFile.FieldType), Jvm.Cond.code ({ cls := "java/lang/Object", name := "<init>", desc := "()V" } : Jvm.MethodName) object_method_1_code (1 : Nat) (Option.none : Option Jvm.ClassFile.FieldType), Jvm.Cond.code ({ cls := "com/example/offset/offset/server/Delay", name := "precedes", desc := "(JJ)Z" } : Jvm.MethodName) prog_31_method_4_code (5 : Nat) (Option.some Jvm.ClassFile.FieldType.boolean), Jvm.Cond.code ({ cls := "com/example/offset/offset/server/Delay", name := "compareTo", desc := "(Lcom/example/offset/offset/server/Delay;)I" } : Jvm.MethodName) prog_31_method_5_code (3 : Nat) (Option.some Jvm.ClassFile.FieldType.int), Jvm.Cond.code ({ cls := "java/lang/Long", name := "compare", desc := "(JJ)I" } : Jvm.MethodName) jdk_35_method_42_code (4 : Nat) (Option.some Jvm.ClassFile.FieldType.int)]
set_option maxRecDepth 65536 in
theorem codes_eq : words1.filter isCode = codes1 := rfl
theorem w_codes : ∀ c ∈ words1.filter isCode, c.before args0 about1 = true := by
  rw [codes_eq]
  intro c hc
  simp only [codes1, List.mem_cons, List.not_mem_nil, or_false] at hc
  rcases hc with rfl | rfl | rfl | rfl | rfl | rfl
  · exact w_c0
  · exact w_c1
  · exact w_c2
  · exact w_c3
  · exact w_c4
  · exact w_c5
set_option maxRecDepth 65536 in
theorem w_t1 : (words1.take 24).all (fun c => isCode c || c.before args0 about1) = true := by decide +kernel
set_option maxRecDepth 65536 in
theorem w_t2 : (words1.drop 24).all (fun c => isCode c || c.before args0 about1) = true := by decide +kernel
theorem w_tables : (allAtoms (Jvm.Cond.code x code maxLocals ret :: tables_1)).before args0 about1 = true := by
  rw [allAtoms_all]
  show words1.all (fun c => c.before args0 about1) = true
  refine all_split ?_ w_codes
  rw [← List.take_append_drop 24 words1, List.all_append, w_t1, w_t2]
  rfl
set_option maxRecDepth 65536 in
theorem w_case : (Jvm.Cond.and given_1 narrow_1).before args0 about1 = true := by decide +kernel
theorem w_applies : (headSpec (Jvm.Cond.code x code maxLocals ret :: tables_1) room_1).applies x e0.platform about1 = true :=
  (Spec.applies_iff w_frames).mpr ⟨w_running, w_runnable, w_alone, w_named, w_hears, w_ripe, w_room, w_tables⟩
theorem atStart : AtStart classFile x code maxLocals ret World_1 tables_1 room_1 Calls_1 rest_1 Pre_1 launch0 p0 e0 about1 theMethod args0 below0 :=
  ⟨lists_1, trivial, launch0.admits_env _ _ _, launch0.least_env, fairChoices_fair.cas, fairChoices_fair.clock, w_frames, w_args, w_heap, w_applies, trivial, trivial, w_case⟩
end start1
theorem witness_1 : WitnessClaimed_1 := ⟨start1.p0, start1.e0, start1.about1, start1.theMethod, start1.args0, start1.below0, start1.atStart⟩
end Jvm.Pilot.@@N@@
