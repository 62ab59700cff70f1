import JvmDerived
import JvmDerived.Pilot.@@N@@Statement
import JvmDerived.Pilot.@@N@@Code
set_option linter.unusedVariables false
set_option linter.unusedSimpArgs false
namespace Jvm.RoadKit
open Sem ClassFile Op Lib Jvm.Stand Jvm.Free Jvm.LawKit
section New
variable {p : Program} {l : Launch} {e : Env} {R : Room} {s : State} {m : MethodId} {args : Array Value} {below : List Frame} {meth : Method} {c : Code} {T : State} {locs : List Loc} {cells slots : Nat}
theorem retI (X : Stand p l e R s m args below meth c T locs cells slots) (hx : p.tables.exec = Jvm.exec) {pc : Nat} {Ls : Array Slot} {z : Int32} {rest : List Value} (hret : meth.sig.returnType = some .int) (hd : decode c.code pc = .ok (.ireturn, 1)) {fs : List Frame}
    (hl : ∀ (f : JFrame) (acts : List Action), f.method = m → f.locked = none → f.entered = [] → (doReturn e (T.setTop f) acts (some (.int z))).1 = T.setFrames fs) : Steps p.tables e below (T.setTop (mkF m pc Ls (.int z :: rest))) (T.setFrames fs) := by
  have hm' : T.vm.method? m = some meth := X.method'
  have hn : narrow .int (.int z) = .int z := rfl
  show Steps p.tables e below (T.setTop { method := m, pc := pc, locals := Ls, stack := _ :: rest, locked := none }) _
  jvm_step X.here [X.here.top, hx, hd, hm', hret, hn]
  first | (intro acts; rw [hl _ acts rfl rfl rfl]) | rw [hl _ _ rfl rfl rfl]
  exact Steps.refl _
end New
end Jvm.RoadKit
namespace Jvm.Pilot.@@N@@
open Jvm Jvm.ClassFile Sem Op Lib Jvm.Free Jvm.Stand Jvm.LawKit Jvm.RoadKit Bundle Jvm.Pilot.@@N@@.Jvm.D
/-! OWN KIT: a walk as one forward chain. OwF: from frame f at T the run ends, and D says how. OwC: the setting of a body. OwCon: a body's contract. -/
section OwnKit
variable {p : Program} {l : Launch} {e : Env} {R : Room} {s : State} {m : MethodId} {args : Array Value} {below : List Frame} {meth : Method} {c : Code} {T : State} {locs : List Loc} {cells slots : Nat} {Z : State} {a0 : Array Value} {h : Heap}
variable {own nm : String} {bytes : ByteArray} {maxL : Nat} {ret : Option FieldType} {D : State → Outcome → Prop} {pc pc' : Nat} {Ls : Array Slot} {r : List Value}
def OwF (p : Program) (e : Env) (below : List Frame) (D : State → Outcome → Prop) (T : State) (f : JFrame) : Prop := ∃ t o, Steps p.tables e below (T.setTop f) t ∧ D t o
def OwC (p : Program) (Z s : State) (m : MethodId) (meth : Method) (c : Code) (own nm : String) (bytes : ByteArray) (maxL : Nat) (ret : Option FieldType) : Prop :=
  p.tables.exec = Jvm.exec ∧ c.code = bytes ∧ c.maxLocals = maxL ∧ s.vm.findClass own = some m.cls ∧ meth.name = nm ∧ meth.sig.returnType = ret ∧ meth.locks = false ∧ Z.Warmed39 s.vm
def OwD (s : State) (below : List Frame) (Q : Option Value → Heap → List Loc → Prop) (kc ks : Nat) (t : State) (o : Outcome) : Prop :=
  t.status = .running ∧ Ended t below o ∧ ∃ v L, o = .returned v ∧ Q v t.heap L ∧ FrameEnd s o t L kc ks
def OwCon (l : Launch) (y : MethodName) (bytes : ByteArray) (maxL : Nat) (ret : Option FieldType) (rm : Room) (Z : State) (as' : Array Value) (h : Heap) (Q : Option Value → Heap → List Loc → Prop) : Prop :=
  ∀ ws, MetFree l y (head1 (Jvm.Cond.code y bytes maxL ret :: ws) rm) (fun a U => a = as' ∧ Z.Warmed39 U.vm ∧ U.heap = h) (fun _ _ _ _ _ => True) (fun _ U o U' => ∃ v L, o = .returned v ∧ Q v U'.heap L ∧ FrameEnd U o U' L rm.cells rm.slots)
theorem OwF.st {T' : State} {f f' : JFrame} (h : ∀ t, Steps p.tables e below (T'.setTop f') t → Steps p.tables e below (T.setTop f) t) (k : OwF p e below D T' f') : OwF p e below D T f := by
  obtain ⟨t, o, q, d⟩ := k; exact ⟨t, o, h t q, d⟩
theorem OwCon.of {y : MethodName} {rm : Room} {as' : Array Value} {Q : Option Value → Heap → List Loc → Prop} (hpl : plainFor y = true) {Ls : Array Slot} (hent : ∀ m, entryFrame m as' maxL = mkF m 0 Ls [])
    (body : ∀ (p : Program) (e : Env) (s : State) (m : MethodId) (below : List Frame) (meth : Method) (c : Code) (s₁ : State), OwC p Z s m meth c y.cls y.name bytes maxL ret → Stand p l e rm s m as' below meth c s₁ [] 0 0 → s₁.heap = h → OwF p e below (OwD s below Q rm.cells rm.slots) s₁ (mkF m 0 Ls [])) :
    OwCon l y bytes maxL ret rm Z as' h Q := by
  intro ws
  refine MetFree.of_bodySF hpl hisR ?_
  intro p e s m args below meth c s₁ Bd hml0 hP hK
  obtain ⟨rfl, hZ, hh⟩ := hP
  have X0 : Stand p l e rm s m args below meth c s₁ [] 0 0 := Stand.of_body Bd
  obtain ⟨t, o, h1, h2, h3, h4⟩ := body p e s m below meth c s₁ ⟨Bd.exec, Bd.bytes, hml0, findClass_of_methodNamed Bd.named, (name_of_methodNamed Bd.named Bd.method).1, Bd.returns, BodyLoose.notSynchronized Bd, hZ⟩ X0 (by rw [← hh, Bd.state]; rfl)
  exact ⟨t, o, castTop (hent m) h1, h2, h3, h4⟩
/-- a contract may say less -/
theorem OwCon.mono {y : MethodName} {rm : Room} {as' : Array Value} {Q Q' : Option Value → Heap → List Loc → Prop} (M : OwCon l y bytes maxL ret rm Z as' h Q) (hq : ∀ v h' L, Q v h' L → Q' v h' L) : OwCon l y bytes maxL ret rm Z as' h Q' := by
  intro ws p e ha hc hk s m args below hf happ hP hK
  obtain ⟨n, o, h1, h2, h3, v, L, h4, h5, h6⟩ := M ws p e ha hc hk s m args below hf happ hP hK
  exact ⟨n, o, h1, h2, h3, v, L, h4, hq _ _ _ h5, h6⟩
/-- two roads that meet -/
theorem ow_join {f f' : JFrame} (X : Stand p l e R s m args below meth c T locs cells slots) (eT : T.heap = h) (A : ∀ D : State → Outcome → Prop, (∀ T', Stand p l e R s m args below meth c T' locs cells slots → T'.heap = h → OwF p e below D T' f') → OwF p e below D T f)
    (k : ∀ T', Stand p l e R s m args below meth c T' locs cells slots → T'.heap = h → OwF p e below D T' f') : OwF p e below D T f := A D k
/-- a long or nothing, in two places -/
def OwTwo (x y : Slot) : Prop := (x = .unset ∧ y = .unset) ∨ ∃ v : Int64, x = .val (.long v) ∧ y = .second
/-- two roads that meet, with locals that are read no more -/
theorem ow_joinL {f : JFrame} {r' : List Value} {P : Array Slot → Prop} (X : Stand p l e R s m args below meth c T locs cells slots) (eT : T.heap = h) (A : ∀ D : State → Outcome → Prop, (∀ Ls' T', P Ls' → Stand p l e R s m args below meth c T' locs cells slots → T'.heap = h → OwF p e below D T' (mkF m pc' Ls' r')) → OwF p e below D T f)
    (k : ∀ Ls' T', P Ls' → Stand p l e R s m args below meth c T' locs cells slots → T'.heap = h → OwF p e below D T' (mkF m pc' Ls' r')) : OwF p e below D T f := A D k
/-! returns -/
theorem ow_retI {Q : Option Value → Heap → List Loc → Prop} {kc ks : Nat} {z : Int32} (C : OwC p Z s m meth c own nm bytes maxL (some .int)) (X : Stand p l e R s m args below meth c T locs cells slots) (hd : decode bytes pc = .ok (.ireturn, 1)) (hc : cells ≤ kc) (hs : slots ≤ ks)
    (hQ : Q (some (.int z)) T.heap locs) : OwF p e below (OwD s below Q kc ks) T (mkF m pc Ls (.int z :: r)) := by
  obtain ⟨hx, hby, -, -, -, hret, hlk, -⟩ := C
  obtain ⟨fs, hr, hrun, hended, hW, hsame⟩ := X.leave (v := some (.int z)) (fun h => by rw [hret] at h; cases h) hlk
  exact ⟨_, _, retI X hx hret (hb hby hd) hr, hrun, hended, _, _, rfl, hQ, ⟨_, rfl⟩, hW, hsame.mono hc hs⟩
theorem ow_retZ {Q : Option Value → Heap → List Loc → Prop} {kc ks : Nat} {z : Int32} (C : OwC p Z s m meth c own nm bytes maxL (some .boolean)) (X : Stand p l e R s m args below meth c T locs cells slots) (hd : decode bytes pc = .ok (.ireturn, 1)) (hc : cells ≤ kc) (hs : slots ≤ ks) (hz : z = 0 ∨ z = 1)
    (hQ : Q (some (.int z)) T.heap locs) : OwF p e below (OwD s below Q kc ks) T (mkF m pc Ls (.int z :: r)) := by
  obtain ⟨hx, hby, -, -, -, hret, hlk, -⟩ := C
  have hn : nar .boolean z = z := by rcases hz with rfl | rfl <;> decide
  obtain ⟨fs, hr, hrun, hended, hW, hsame⟩ := X.leave (v := some (.int z)) (fun h => by rw [hret] at h; cases h) hlk
  exact ⟨_, _, retN X hx hret (by simp) (hb hby hd) (by rw [hn]; exact hr), hrun, hended, _, _, rfl, hQ, ⟨_, rfl⟩, hW, hsame.mono hc hs⟩
theorem ow_retJ {Q : Option Value → Heap → List Loc → Prop} {kc ks : Nat} {z : Int64} (C : OwC p Z s m meth c own nm bytes maxL (some .long)) (X : Stand p l e R s m args below meth c T locs cells slots) (hd : decode bytes pc = .ok (.lreturn, 1)) (hc : cells ≤ kc) (hs : slots ≤ ks)
    (hQ : Q (some (.long z)) T.heap locs) : OwF p e below (OwD s below Q kc ks) T (mkF m pc Ls [.long z]) := by
  obtain ⟨hx, hby, -, -, -, hret, hlk, -⟩ := C
  obtain ⟨fs, hr, hrun, hended, hW, hsame⟩ := X.leave (v := some (.long z)) (fun h => by rw [hret] at h; cases h) hlk
  exact ⟨_, _, X.lreturnOut hx hret (hb hby hd) hr, hrun, hended, _, _, rfl, hQ, ⟨_, rfl⟩, hW, hsame.mono hc hs⟩
theorem ow_retV {Q : Option Value → Heap → List Loc → Prop} {kc ks : Nat} (C : OwC p Z s m meth c own nm bytes maxL none) (X : Stand p l e R s m args below meth c T locs cells slots) (hd : decode bytes pc = .ok (.return_, 1)) (hc : cells ≤ kc) (hs : slots ≤ ks)
    (hQ : Q none T.heap locs) : OwF p e below (OwD s below Q kc ks) T (mkF m pc Ls []) := by
  obtain ⟨hx, hby, -, -, -, hret, hlk, -⟩ := C
  obtain ⟨fs, hr, hrun, hended, hW, hsame⟩ := X.leave (v := none) (fun _ => rfl) hlk
  exact ⟨_, _, X.returnOut hx hret (hb hby hd) hr, hrun, hended, _, _, rfl, hQ, ⟨_, rfl⟩, hW, hsame.mono hc hs⟩
end OwnKit
section OwnSteps
variable {p : Program} {l : Launch} {e : Env} {R : Room} {s : State} {m : MethodId} {args : Array Value} {below : List Frame} {meth : Method} {c : Code} {T : State} {locs : List Loc} {cells slots : Nat} {Z : State} {a0 : Array Value} {h : Heap}
variable {own nm : String} {bytes : ByteArray} {maxL : Nat} {ret : Option FieldType} {D : State → Outcome → Prop} {pc pc' pcT : Nat} {Ls Ls' : Array Slot} {r : List Value}
theorem ow_iadd {x y : Int32} (C : OwC p Z s m meth c own nm bytes maxL ret) (X : Stand p l e R s m args below meth c T locs cells slots) (hd : decode bytes pc = .ok (.iadd, 1))  (hp : pc + 1 = pc') (k : OwF p e below D T (mkF m pc' Ls (.int (x + y) :: r))) : OwF p e below D T (mkF m pc Ls (.int y :: .int x :: r)) := by
  subst hp; exact OwF.st (fun _ q => XS.iadd X.here C.1 rfl (hb C.2.1 hd) rfl q) k
theorem ow_isub {x y : Int32} (C : OwC p Z s m meth c own nm bytes maxL ret) (X : Stand p l e R s m args below meth c T locs cells slots) (hd : decode bytes pc = .ok (.isub, 1))  (hp : pc + 1 = pc') (k : OwF p e below D T (mkF m pc' Ls (.int (x - y) :: r))) : OwF p e below D T (mkF m pc Ls (.int y :: .int x :: r)) := by
  subst hp; exact OwF.st (fun _ q => XS.isub X.here C.1 rfl (hb C.2.1 hd) rfl q) k
theorem ow_imul {x y : Int32} (C : OwC p Z s m meth c own nm bytes maxL ret) (X : Stand p l e R s m args below meth c T locs cells slots) (hd : decode bytes pc = .ok (.imul, 1))  (hp : pc + 1 = pc') (k : OwF p e below D T (mkF m pc' Ls (.int (x * y) :: r))) : OwF p e below D T (mkF m pc Ls (.int y :: .int x :: r)) := by
  subst hp; exact OwF.st (fun _ q => XS.imul X.here C.1 rfl (hb C.2.1 hd) rfl q) k
theorem ow_iand {x y : Int32} (C : OwC p Z s m meth c own nm bytes maxL ret) (X : Stand p l e R s m args below meth c T locs cells slots) (hd : decode bytes pc = .ok (.iand, 1))  (hp : pc + 1 = pc') (k : OwF p e below D T (mkF m pc' Ls (.int (x &&& y) :: r))) : OwF p e below D T (mkF m pc Ls (.int y :: .int x :: r)) := by
  subst hp; exact OwF.st (fun _ q => XS.iand X.here C.1 rfl (hb C.2.1 hd) rfl q) k
theorem ow_ior {x y : Int32} (C : OwC p Z s m meth c own nm bytes maxL ret) (X : Stand p l e R s m args below meth c T locs cells slots) (hd : decode bytes pc = .ok (.ior, 1))  (hp : pc + 1 = pc') (k : OwF p e below D T (mkF m pc' Ls (.int (x ||| y) :: r))) : OwF p e below D T (mkF m pc Ls (.int y :: .int x :: r)) := by
  subst hp; exact OwF.st (fun _ q => XT.ior X.here C.1 rfl (hb C.2.1 hd) rfl q) k
theorem ow_ixor {x y : Int32} (C : OwC p Z s m meth c own nm bytes maxL ret) (X : Stand p l e R s m args below meth c T locs cells slots) (hd : decode bytes pc = .ok (.ixor, 1))  (hp : pc + 1 = pc') (k : OwF p e below D T (mkF m pc' Ls (.int (x ^^^ y) :: r))) : OwF p e below D T (mkF m pc Ls (.int y :: .int x :: r)) := by
  subst hp; exact OwF.st (fun _ q => XT.ixor X.here C.1 rfl (hb C.2.1 hd) rfl q) k
theorem ow_ishl {x y : Int32} (C : OwC p Z s m meth c own nm bytes maxL ret) (X : Stand p l e R s m args below meth c T locs cells slots) (hd : decode bytes pc = .ok (.ishl, 1))  (hp : pc + 1 = pc') (k : OwF p e below D T (mkF m pc' Ls (.int (x <<< (y &&& 31)) :: r))) : OwF p e below D T (mkF m pc Ls (.int y :: .int x :: r)) := by
  subst hp; exact OwF.st (fun _ q => XT.ishl X.here C.1 rfl (hb C.2.1 hd) rfl q) k
theorem ow_ishr {x y : Int32} (C : OwC p Z s m meth c own nm bytes maxL ret) (X : Stand p l e R s m args below meth c T locs cells slots) (hd : decode bytes pc = .ok (.ishr, 1))  (hp : pc + 1 = pc') (k : OwF p e below D T (mkF m pc' Ls (.int (x >>> (y &&& 31)) :: r))) : OwF p e below D T (mkF m pc Ls (.int y :: .int x :: r)) := by
  subst hp; exact OwF.st (fun _ q => XT.ishr X.here C.1 rfl (hb C.2.1 hd) rfl q) k
theorem ow_iushr {x y : Int32} (C : OwC p Z s m meth c own nm bytes maxL ret) (X : Stand p l e R s m args below meth c T locs cells slots) (hd : decode bytes pc = .ok (.iushr, 1))  (hp : pc + 1 = pc') (k : OwF p e below D T (mkF m pc' Ls (.int (XT.ushr x y) :: r))) : OwF p e below D T (mkF m pc Ls (.int y :: .int x :: r)) := by
  subst hp; exact OwF.st (fun _ q => XT.iushr X.here C.1 rfl (hb C.2.1 hd) rfl q) k
theorem ow_idiv {x y : Int32} (C : OwC p Z s m meth c own nm bytes maxL ret) (X : Stand p l e R s m args below meth c T locs cells slots) (hd : decode bytes pc = .ok (.idiv, 1)) (hy : y ≠ 0) (hp : pc + 1 = pc') (k : OwF p e below D T (mkF m pc' Ls (.int (x / y) :: r))) : OwF p e below D T (mkF m pc Ls (.int y :: .int x :: r)) := by
  subst hp; exact OwF.st (fun _ q => XS.idiv X.here C.1 rfl (hb C.2.1 hd) rfl hy q) k
theorem ow_irem {x y : Int32} (C : OwC p Z s m meth c own nm bytes maxL ret) (X : Stand p l e R s m args below meth c T locs cells slots) (hd : decode bytes pc = .ok (.irem, 1)) (hy : y ≠ 0) (hp : pc + 1 = pc') (k : OwF p e below D T (mkF m pc' Ls (.int (x - (x / y) * y) :: r))) : OwF p e below D T (mkF m pc Ls (.int y :: .int x :: r)) := by
  subst hp; exact OwF.st (fun _ q => XS.irem X.here C.1 rfl (hb C.2.1 hd) rfl hy q) k
theorem ow_ladd {x y : Int64} (C : OwC p Z s m meth c own nm bytes maxL ret) (X : Stand p l e R s m args below meth c T locs cells slots) (hd : decode bytes pc = .ok (.ladd, 1))  (hp : pc + 1 = pc') (k : OwF p e below D T (mkF m pc' Ls (.long (x + y) :: r))) : OwF p e below D T (mkF m pc Ls (.long y :: .long x :: r)) := by
  subst hp; exact OwF.st (fun _ q => XT.ladd X.here C.1 rfl (hb C.2.1 hd) rfl q) k
theorem ow_lsub {x y : Int64} (C : OwC p Z s m meth c own nm bytes maxL ret) (X : Stand p l e R s m args below meth c T locs cells slots) (hd : decode bytes pc = .ok (.lsub, 1))  (hp : pc + 1 = pc') (k : OwF p e below D T (mkF m pc' Ls (.long (x - y) :: r))) : OwF p e below D T (mkF m pc Ls (.long y :: .long x :: r)) := by
  subst hp; exact OwF.st (fun _ q => XT.lsub X.here C.1 rfl (hb C.2.1 hd) rfl q) k
theorem ow_lmul {x y : Int64} (C : OwC p Z s m meth c own nm bytes maxL ret) (X : Stand p l e R s m args below meth c T locs cells slots) (hd : decode bytes pc = .ok (.lmul, 1))  (hp : pc + 1 = pc') (k : OwF p e below D T (mkF m pc' Ls (.long (x * y) :: r))) : OwF p e below D T (mkF m pc Ls (.long y :: .long x :: r)) := by
  subst hp; exact OwF.st (fun _ q => XT.lmul X.here C.1 rfl (hb C.2.1 hd) rfl q) k
theorem ow_land {x y : Int64} (C : OwC p Z s m meth c own nm bytes maxL ret) (X : Stand p l e R s m args below meth c T locs cells slots) (hd : decode bytes pc = .ok (.land, 1))  (hp : pc + 1 = pc') (k : OwF p e below D T (mkF m pc' Ls (.long (x &&& y) :: r))) : OwF p e below D T (mkF m pc Ls (.long y :: .long x :: r)) := by
  subst hp; exact OwF.st (fun _ q => XT.land X.here C.1 rfl (hb C.2.1 hd) rfl q) k
theorem ow_lor {x y : Int64} (C : OwC p Z s m meth c own nm bytes maxL ret) (X : Stand p l e R s m args below meth c T locs cells slots) (hd : decode bytes pc = .ok (.lor, 1))  (hp : pc + 1 = pc') (k : OwF p e below D T (mkF m pc' Ls (.long (x ||| y) :: r))) : OwF p e below D T (mkF m pc Ls (.long y :: .long x :: r)) := by
  subst hp; exact OwF.st (fun _ q => XT.lor X.here C.1 rfl (hb C.2.1 hd) rfl q) k
theorem ow_lxor {x y : Int64} (C : OwC p Z s m meth c own nm bytes maxL ret) (X : Stand p l e R s m args below meth c T locs cells slots) (hd : decode bytes pc = .ok (.lxor, 1))  (hp : pc + 1 = pc') (k : OwF p e below D T (mkF m pc' Ls (.long (x ^^^ y) :: r))) : OwF p e below D T (mkF m pc Ls (.long y :: .long x :: r)) := by
  subst hp; exact OwF.st (fun _ q => XT.lxor X.here C.1 rfl (hb C.2.1 hd) rfl q) k
theorem ow_ldiv {x y : Int64} (C : OwC p Z s m meth c own nm bytes maxL ret) (X : Stand p l e R s m args below meth c T locs cells slots) (hd : decode bytes pc = .ok (.ldiv, 1)) (hy : y ≠ 0) (hp : pc + 1 = pc') (k : OwF p e below D T (mkF m pc' Ls (.long (x / y) :: r))) : OwF p e below D T (mkF m pc Ls (.long y :: .long x :: r)) := by
  subst hp; exact OwF.st (fun _ q => XT.ldiv X.here C.1 rfl (hb C.2.1 hd) rfl hy q) k
theorem ow_lrem {x y : Int64} (C : OwC p Z s m meth c own nm bytes maxL ret) (X : Stand p l e R s m args below meth c T locs cells slots) (hd : decode bytes pc = .ok (.lrem, 1)) (hy : y ≠ 0) (hp : pc + 1 = pc') (k : OwF p e below D T (mkF m pc' Ls (.long (x - (x / y) * y) :: r))) : OwF p e below D T (mkF m pc Ls (.long y :: .long x :: r)) := by
  subst hp; exact OwF.st (fun _ q => XT.lrem X.here C.1 rfl (hb C.2.1 hd) rfl hy q) k
theorem ow_lshl {x : Int64} {y : Int32} (C : OwC p Z s m meth c own nm bytes maxL ret) (X : Stand p l e R s m args below meth c T locs cells slots) (hd : decode bytes pc = .ok (.lshl, 1))  (hp : pc + 1 = pc') (k : OwF p e below D T (mkF m pc' Ls (.long (x <<< (y.toInt64 &&& 63)) :: r))) : OwF p e below D T (mkF m pc Ls (.int y :: .long x :: r)) := by
  subst hp; exact OwF.st (fun _ q => XT.lshl X.here C.1 rfl (hb C.2.1 hd) rfl q) k
theorem ow_lshr {x : Int64} {y : Int32} (C : OwC p Z s m meth c own nm bytes maxL ret) (X : Stand p l e R s m args below meth c T locs cells slots) (hd : decode bytes pc = .ok (.lshr, 1))  (hp : pc + 1 = pc') (k : OwF p e below D T (mkF m pc' Ls (.long (x >>> (y.toInt64 &&& 63)) :: r))) : OwF p e below D T (mkF m pc Ls (.int y :: .long x :: r)) := by
  subst hp; exact OwF.st (fun _ q => XT.lshr X.here C.1 rfl (hb C.2.1 hd) rfl q) k
theorem ow_lushr {x : Int64} {y : Int32} (C : OwC p Z s m meth c own nm bytes maxL ret) (X : Stand p l e R s m args below meth c T locs cells slots) (hd : decode bytes pc = .ok (.lushr, 1))  (hp : pc + 1 = pc') (k : OwF p e below D T (mkF m pc' Ls (.long (XT.ushrL x y) :: r))) : OwF p e below D T (mkF m pc Ls (.int y :: .long x :: r)) := by
  subst hp; exact OwF.st (fun _ q => XT.lushr X.here C.1 rfl (hb C.2.1 hd) rfl q) k
theorem ow_lcmp {x y : Int64} (C : OwC p Z s m meth c own nm bytes maxL ret) (X : Stand p l e R s m args below meth c T locs cells slots) (hd : decode bytes pc = .ok (.lcmp, 1))  (hp : pc + 1 = pc') (k : OwF p e below D T (mkF m pc' Ls (.int (XT.cmpL x y) :: r))) : OwF p e below D T (mkF m pc Ls (.long y :: .long x :: r)) := by
  subst hp; exact OwF.st (fun _ q => XT.lcmp X.here C.1 rfl (hb C.2.1 hd) rfl q) k
theorem ow_ineg {x : Int32} (C : OwC p Z s m meth c own nm bytes maxL ret) (X : Stand p l e R s m args below meth c T locs cells slots) (hd : decode bytes pc = .ok (.ineg, 1))  (hp : pc + 1 = pc') (k : OwF p e below D T (mkF m pc' Ls (.int (-x) :: r))) : OwF p e below D T (mkF m pc Ls (.int x :: r)) := by
  subst hp; exact OwF.st (fun _ q => XS.ineg X.here C.1 rfl (hb C.2.1 hd) rfl q) k
theorem ow_lneg {x : Int64} (C : OwC p Z s m meth c own nm bytes maxL ret) (X : Stand p l e R s m args below meth c T locs cells slots) (hd : decode bytes pc = .ok (.lneg, 1))  (hp : pc + 1 = pc') (k : OwF p e below D T (mkF m pc' Ls (.long (-x) :: r))) : OwF p e below D T (mkF m pc Ls (.long x :: r)) := by
  subst hp; exact OwF.st (fun _ q => XT.lneg X.here C.1 rfl (hb C.2.1 hd) rfl q) k
theorem ow_i2l {x : Int32} (C : OwC p Z s m meth c own nm bytes maxL ret) (X : Stand p l e R s m args below meth c T locs cells slots) (hd : decode bytes pc = .ok (.i2l, 1))  (hp : pc + 1 = pc') (k : OwF p e below D T (mkF m pc' Ls (.long x.toInt64 :: r))) : OwF p e below D T (mkF m pc Ls (.int x :: r)) := by
  subst hp; exact OwF.st (fun _ q => XT.i2l X.here C.1 rfl (hb C.2.1 hd) rfl q) k
theorem ow_l2i {x : Int64} (C : OwC p Z s m meth c own nm bytes maxL ret) (X : Stand p l e R s m args below meth c T locs cells slots) (hd : decode bytes pc = .ok (.l2i, 1))  (hp : pc + 1 = pc') (k : OwF p e below D T (mkF m pc' Ls (.int x.toInt32 :: r))) : OwF p e below D T (mkF m pc Ls (.long x :: r)) := by
  subst hp; exact OwF.st (fun _ q => XT.l2i X.here C.1 rfl (hb C.2.1 hd) rfl q) k
theorem ow_i2b {x : Int32} (C : OwC p Z s m meth c own nm bytes maxL ret) (X : Stand p l e R s m args below meth c T locs cells slots) (hd : decode bytes pc = .ok (.i2b, 1))  (hp : pc + 1 = pc') (k : OwF p e below D T (mkF m pc' Ls (.int x.toInt8.toInt32 :: r))) : OwF p e below D T (mkF m pc Ls (.int x :: r)) := by
  subst hp; exact OwF.st (fun _ q => XT.i2b X.here C.1 rfl (hb C.2.1 hd) rfl q) k
theorem ow_i2c {x : Int32} (C : OwC p Z s m meth c own nm bytes maxL ret) (X : Stand p l e R s m args below meth c T locs cells slots) (hd : decode bytes pc = .ok (.i2c, 1))  (hp : pc + 1 = pc') (k : OwF p e below D T (mkF m pc' Ls (.int x.toUInt32.toUInt16.toUInt32.toInt32 :: r))) : OwF p e below D T (mkF m pc Ls (.int x :: r)) := by
  subst hp; exact OwF.st (fun _ q => XT.i2c X.here C.1 rfl (hb C.2.1 hd) rfl q) k
theorem ow_i2s {x : Int32} (C : OwC p Z s m meth c own nm bytes maxL ret) (X : Stand p l e R s m args below meth c T locs cells slots) (hd : decode bytes pc = .ok (.i2s, 1))  (hp : pc + 1 = pc') (k : OwF p e below D T (mkF m pc' Ls (.int x.toInt16.toInt32 :: r))) : OwF p e below D T (mkF m pc Ls (.int x :: r)) := by
  subst hp; exact OwF.st (fun _ q => XT.i2s X.here C.1 rfl (hb C.2.1 hd) rfl q) k
theorem ow_dup {v : Value} (C : OwC p Z s m meth c own nm bytes maxL ret) (X : Stand p l e R s m args below meth c T locs cells slots) (hd : decode bytes pc = .ok (.dup, 1)) (hc : v.category = 1) (hp : pc + 1 = pc') (k : OwF p e below D T (mkF m pc' Ls (v :: v :: r))) : OwF p e below D T (mkF m pc Ls (v :: r)) := by
  subst hp; exact OwF.st (fun _ q => XS.dup X.here C.1 rfl (hb C.2.1 hd) rfl hc q) k
theorem ow_pop {v : Value} (C : OwC p Z s m meth c own nm bytes maxL ret) (X : Stand p l e R s m args below meth c T locs cells slots) (hd : decode bytes pc = .ok (.pop, 1)) (hc : v.category = 1) (hp : pc + 1 = pc') (k : OwF p e below D T (mkF m pc' Ls (r))) : OwF p e below D T (mkF m pc Ls (v :: r)) := by
  subst hp; exact OwF.st (fun _ q => XT.pop X.here C.1 rfl (hb C.2.1 hd) rfl hc q) k
theorem ow_dupX1 {v w : Value} (C : OwC p Z s m meth c own nm bytes maxL ret) (X : Stand p l e R s m args below meth c T locs cells slots) (hd : decode bytes pc = .ok (.dup_x1, 1)) (hc : v.category = 1) (hc' : w.category = 1) (hp : pc + 1 = pc') (k : OwF p e below D T (mkF m pc' Ls (v :: w :: v :: r))) : OwF p e below D T (mkF m pc Ls (v :: w :: r)) := by
  subst hp; exact OwF.st (fun _ q => XT.dupX1 X.here C.1 rfl (hb C.2.1 hd) rfl hc hc' q) k
theorem ow_dup2 {v w : Value} (C : OwC p Z s m meth c own nm bytes maxL ret) (X : Stand p l e R s m args below meth c T locs cells slots) (hd : decode bytes pc = .ok (.dup2, 1)) (hc : v.category = 1) (hc' : w.category = 1) (hp : pc + 1 = pc') (k : OwF p e below D T (mkF m pc' Ls (v :: w :: v :: w :: r))) : OwF p e below D T (mkF m pc Ls (v :: w :: r)) := by
  subst hp; exact OwF.st (fun _ q => XT.dup2 X.here C.1 rfl (hb C.2.1 hd) rfl hc hc' q) k
theorem ow_dup2L {x : Int64} (C : OwC p Z s m meth c own nm bytes maxL ret) (X : Stand p l e R s m args below meth c T locs cells slots) (hd : decode bytes pc = .ok (.dup2, 1))  (hp : pc + 1 = pc') (k : OwF p e below D T (mkF m pc' Ls (.long x :: .long x :: r))) : OwF p e below D T (mkF m pc Ls (.long x :: r)) := by
  subst hp; exact OwF.st (fun _ q => XT.dup2L X.here C.1 rfl (hb C.2.1 hd) rfl q) k
theorem ow_aconstNull  (C : OwC p Z s m meth c own nm bytes maxL ret) (X : Stand p l e R s m args below meth c T locs cells slots) (hd : decode bytes pc = .ok (.aconst_null, 1))  (hp : pc + 1 = pc') (k : OwF p e below D T (mkF m pc' Ls (.null :: r))) : OwF p e below D T (mkF m pc Ls (r)) := by
  subst hp; exact OwF.st (fun _ q => XS.aconstNull X.here C.1 rfl (hb C.2.1 hd)  q) k
theorem ow_iloadN {j : Fin 4} {v : Int32} (C : OwC p Z s m meth c own nm bytes maxL ret) (X : Stand p l e R s m args below meth c T locs cells slots) (hd : decode bytes pc = .ok (.iload_n j, 1)) (hl : Ls[j.val]? = some (.val (.int v))) (hp : pc + 1 = pc') (k : OwF p e below D T (mkF m pc' Ls (.int v :: r))) : OwF p e below D T (mkF m pc Ls (r)) := by
  subst hp; exact OwF.st (fun _ q => XS.iloadN X.here C.1 rfl (hb C.2.1 hd) hl q) k
theorem ow_iload {j : Nat} {v : Int32} (C : OwC p Z s m meth c own nm bytes maxL ret) (X : Stand p l e R s m args below meth c T locs cells slots) (hd : decode bytes pc = .ok (.iload j, 2)) (hl : Ls[j]? = some (.val (.int v))) (hp : pc + 2 = pc') (k : OwF p e below D T (mkF m pc' Ls (.int v :: r))) : OwF p e below D T (mkF m pc Ls (r)) := by
  subst hp; exact OwF.st (fun _ q => XS.iload X.here C.1 rfl (hb C.2.1 hd) hl q) k
theorem ow_lloadN {j : Fin 4} {v : Int64} (C : OwC p Z s m meth c own nm bytes maxL ret) (X : Stand p l e R s m args below meth c T locs cells slots) (hd : decode bytes pc = .ok (.lload_n j, 1)) (hl : Ls[j.val]? = some (.val (.long v))) (hp : pc + 1 = pc') (k : OwF p e below D T (mkF m pc' Ls (.long v :: r))) : OwF p e below D T (mkF m pc Ls (r)) := by
  subst hp; exact OwF.st (fun _ q => XT.lloadN X.here C.1 rfl (hb C.2.1 hd) hl q) k
theorem ow_lload {j : Nat} {v : Int64} (C : OwC p Z s m meth c own nm bytes maxL ret) (X : Stand p l e R s m args below meth c T locs cells slots) (hd : decode bytes pc = .ok (.lload j, 2)) (hl : Ls[j]? = some (.val (.long v))) (hp : pc + 2 = pc') (k : OwF p e below D T (mkF m pc' Ls (.long v :: r))) : OwF p e below D T (mkF m pc Ls (r)) := by
  subst hp; exact OwF.st (fun _ q => XT.lload X.here C.1 rfl (hb C.2.1 hd) hl q) k
theorem ow_aloadN {j : Fin 4} {v : Value} (C : OwC p Z s m meth c own nm bytes maxL ret) (X : Stand p l e R s m args below meth c T locs cells slots) (hd : decode bytes pc = .ok (.aload_n j, 1)) (hl : Ls[j.val]? = some (.val v)) (hv : v.isRef = true) (hp : pc + 1 = pc') (k : OwF p e below D T (mkF m pc' Ls (v :: r))) : OwF p e below D T (mkF m pc Ls (r)) := by
  subst hp; exact OwF.st (fun _ q => XS.aloadN X.here C.1 rfl (hb C.2.1 hd) hl hv q) k
theorem ow_aload {j : Nat} {v : Value} (C : OwC p Z s m meth c own nm bytes maxL ret) (X : Stand p l e R s m args below meth c T locs cells slots) (hd : decode bytes pc = .ok (.aload j, 2)) (hl : Ls[j]? = some (.val v)) (hv : v.isRef = true) (hp : pc + 2 = pc') (k : OwF p e below D T (mkF m pc' Ls (v :: r))) : OwF p e below D T (mkF m pc Ls (r)) := by
  subst hp; exact OwF.st (fun _ q => XS.aload X.here C.1 rfl (hb C.2.1 hd) hl hv q) k
theorem ow_istoreN {j : Fin 4} {v : Int32} (C : OwC p Z s m meth c own nm bytes maxL ret) (X : Stand p l e R s m args below meth c T locs cells slots) (hd : decode bytes pc = .ok (.istore_n j, 1)) (hl : storeLocals Ls j.val (.int v) = some Ls') (hp : pc + 1 = pc') (k : OwF p e below D T (mkF m pc' Ls' (r))) : OwF p e below D T (mkF m pc Ls (.int v :: r)) := by
  subst hp; exact OwF.st (fun _ q => XS.istoreN X.here C.1 rfl (hb C.2.1 hd) rfl hl q) k
theorem ow_istore {j : Nat} {v : Int32} (C : OwC p Z s m meth c own nm bytes maxL ret) (X : Stand p l e R s m args below meth c T locs cells slots) (hd : decode bytes pc = .ok (.istore j, 2)) (hl : storeLocals Ls j (.int v) = some Ls') (hp : pc + 2 = pc') (k : OwF p e below D T (mkF m pc' Ls' (r))) : OwF p e below D T (mkF m pc Ls (.int v :: r)) := by
  subst hp; exact OwF.st (fun _ q => XS.istore X.here C.1 rfl (hb C.2.1 hd) rfl hl q) k
theorem ow_lstoreN {j : Fin 4} {v : Int64} (C : OwC p Z s m meth c own nm bytes maxL ret) (X : Stand p l e R s m args below meth c T locs cells slots) (hd : decode bytes pc = .ok (.lstore_n j, 1)) (hl : storeLocals Ls j.val (.long v) = some Ls') (hp : pc + 1 = pc') (k : OwF p e below D T (mkF m pc' Ls' (r))) : OwF p e below D T (mkF m pc Ls (.long v :: r)) := by
  subst hp; exact OwF.st (fun _ q => XT.lstoreN X.here C.1 rfl (hb C.2.1 hd) rfl hl q) k
theorem ow_lstore {j : Nat} {v : Int64} (C : OwC p Z s m meth c own nm bytes maxL ret) (X : Stand p l e R s m args below meth c T locs cells slots) (hd : decode bytes pc = .ok (.lstore j, 2)) (hl : storeLocals Ls j (.long v) = some Ls') (hp : pc + 2 = pc') (k : OwF p e below D T (mkF m pc' Ls' (r))) : OwF p e below D T (mkF m pc Ls (.long v :: r)) := by
  subst hp; exact OwF.st (fun _ q => XT.lstore X.here C.1 rfl (hb C.2.1 hd) rfl hl q) k
theorem ow_astoreN {j : Fin 4} {v : Value} (C : OwC p Z s m meth c own nm bytes maxL ret) (X : Stand p l e R s m args below meth c T locs cells slots) (hd : decode bytes pc = .ok (.astore_n j, 1)) (hv : v.isRef = true) (hl : storeLocals Ls j.val v = some Ls') (hp : pc + 1 = pc') (k : OwF p e below D T (mkF m pc' Ls' (r))) : OwF p e below D T (mkF m pc Ls (v :: r)) := by
  subst hp; exact OwF.st (fun _ q => XS.astoreN X.here C.1 rfl (hb C.2.1 hd) rfl hv hl q) k
theorem ow_astore {j : Nat} {v : Value} (C : OwC p Z s m meth c own nm bytes maxL ret) (X : Stand p l e R s m args below meth c T locs cells slots) (hd : decode bytes pc = .ok (.astore j, 2)) (hv : v.isRef = true) (hl : storeLocals Ls j v = some Ls') (hp : pc + 2 = pc') (k : OwF p e below D T (mkF m pc' Ls' (r))) : OwF p e below D T (mkF m pc Ls (v :: r)) := by
  subst hp; exact OwF.st (fun _ q => XS.astore X.here C.1 rfl (hb C.2.1 hd) rfl hv hl q) k
theorem ow_iconst {i : Int} (v : Int32) (C : OwC p Z s m meth c own nm bytes maxL ret) (X : Stand p l e R s m args below meth c T locs cells slots) (hd : decode bytes pc = .ok (.iconst i, 1)) (hv : Int32.ofInt i = v) (hp : pc + 1 = pc') (k : OwF p e below D T (mkF m pc' Ls (.int v :: r))) : OwF p e below D T (mkF m pc Ls r) := by
  subst hp; subst hv; exact OwF.st (fun _ q => XS.iconst X.here C.1 rfl (hb C.2.1 hd) q) k
theorem ow_bipush {i : Int} (v : Int32) (C : OwC p Z s m meth c own nm bytes maxL ret) (X : Stand p l e R s m args below meth c T locs cells slots) (hd : decode bytes pc = .ok (.bipush i, 2)) (hv : (Int8.ofInt i).toInt32 = v) (hp : pc + 2 = pc') (k : OwF p e below D T (mkF m pc' Ls (.int v :: r))) : OwF p e below D T (mkF m pc Ls r) := by
  subst hp; subst hv; exact OwF.st (fun _ q => XS.bipush X.here C.1 rfl (hb C.2.1 hd) q) k
theorem ow_sipush {i : Int} (v : Int32) (C : OwC p Z s m meth c own nm bytes maxL ret) (X : Stand p l e R s m args below meth c T locs cells slots) (hd : decode bytes pc = .ok (.sipush i, 3)) (hv : (Int16.ofInt i).toInt32 = v) (hp : pc + 3 = pc') (k : OwF p e below D T (mkF m pc' Ls (.int v :: r))) : OwF p e below D T (mkF m pc Ls r) := by
  subst hp; subst hv; exact OwF.st (fun _ q => XS.sipush X.here C.1 rfl (hb C.2.1 hd) q) k
theorem ow_lconst {i : Fin 2} (v : Int64) (C : OwC p Z s m meth c own nm bytes maxL ret) (X : Stand p l e R s m args below meth c T locs cells slots) (hd : decode bytes pc = .ok (.lconst i, 1)) (hv : Int64.ofNat i = v) (hp : pc + 1 = pc') (k : OwF p e below D T (mkF m pc' Ls (.long v :: r))) : OwF p e below D T (mkF m pc Ls r) := by
  subst hp; subst hv; exact OwF.st (fun _ q => XT.lconst X.here C.1 rfl (hb C.2.1 hd) q) k
theorem ow_iinc {i : Int} {j : Nat} {x : Int32} (v : Int32) (C : OwC p Z s m meth c own nm bytes maxL ret) (X : Stand p l e R s m args below meth c T locs cells slots) (hd : decode bytes pc = .ok (.iinc j i, 3)) (hv : Int32.ofInt i = v) (hl : Ls[j]? = some (.val (.int x))) (hl' : storeLocals Ls j (.int (x + v)) = some Ls') (hp : pc + 3 = pc') (k : OwF p e below D T (mkF m pc' Ls' r)) : OwF p e below D T (mkF m pc Ls r) := by
  subst hp; subst hv; exact OwF.st (fun _ q => XS.iinc X.here C.1 rfl (hb C.2.1 hd) hl hl' q) k
theorem ow_ldc {i : Nat} {v : Int32} (C : OwC p Z s m meth c own nm bytes maxL ret) (X : Stand p l e R s m args below meth c T locs cells slots) (w : (Jvm.Cond.constant own i v).before a0 Z = true) (hd : decode bytes pc = .ok (.ldc i, 2)) (hp : pc + 2 = pc') (k : OwF p e below D T (mkF m pc' Ls (.int v :: r))) : OwF p e below D T (mkF m pc Ls r) := by
  subst hp; exact OwF.st (fun _ q => X.ldcI C.1 C.2.2.2.1 (mvT C.2.2.2.2.2.2.2 w) rfl (hb C.2.1 hd) q) k
theorem ow_ldcW {i : Nat} {v : Int32} (C : OwC p Z s m meth c own nm bytes maxL ret) (X : Stand p l e R s m args below meth c T locs cells slots) (w : (Jvm.Cond.constant own i v).before a0 Z = true) (hd : decode bytes pc = .ok (.ldc_w i, 3)) (hp : pc + 3 = pc') (k : OwF p e below D T (mkF m pc' Ls (.int v :: r))) : OwF p e below D T (mkF m pc Ls r) := by
  subst hp; exact OwF.st (fun _ q => X.ldcWI C.1 C.2.2.2.1 (mvT C.2.2.2.2.2.2.2 w) rfl (hb C.2.1 hd) q) k
theorem ow_ldc2 {i : Nat} {v : Int64} (C : OwC p Z s m meth c own nm bytes maxL ret) (X : Stand p l e R s m args below meth c T locs cells slots) (w : (Jvm.Cond.constantLong own i v).before a0 Z = true) (hd : decode bytes pc = .ok (.ldc2_w i, 3)) (hp : pc + 3 = pc') (k : OwF p e below D T (mkF m pc' Ls (.long v :: r))) : OwF p e below D T (mkF m pc Ls r) := by
  subst hp; exact OwF.st (fun _ q => X.ldc2J C.1 C.2.2.2.1 (mvT C.2.2.2.2.2.2.2 w) rfl (hb C.2.1 hd) q) k
theorem ow_goto {o : Int} (C : OwC p Z s m meth c own nm bytes maxL ret) (X : Stand p l e R s m args below meth c T locs cells slots) (hd : decode bytes pc = .ok (.goto o, 3)) (ho : 0 ≤ (pc : Int) + o) (ht : ((pc : Int) + o).toNat = pcT) (k : OwF p e below D T (mkF m pcT Ls r)) : OwF p e below D T (mkF m pc Ls r) :=
  OwF.st (fun _ q => XS.goto X.here C.1 rfl rfl (hb C.2.1 hd) ho ht q) k
theorem ow_if_eq {x : Int32} {o : Int} (C : OwC p Z s m meth c own nm bytes maxL ret) (X : Stand p l e R s m args below meth c T locs cells slots) (hd : decode bytes pc = .ok (.ifCond .eq o, 3)) (ho : 0 ≤ (pc : Int) + o) (ht : ((pc : Int) + o).toNat = pcT) (hp : pc + 3 = pc') (k1 : x = 0 → OwF p e below D T (mkF m pcT Ls r)) (k2 : ¬ x = 0 → OwF p e below D T (mkF m pc' Ls r)) : OwF p e below D T (mkF m pc Ls (.int x :: r)) := by
  subst hp
  by_cases hq : x = 0
  · exact OwF.st (fun _ q => XS.ifYes X.here C.1 rfl rfl (hb C.2.1 hd) rfl (XT.i0_eq_t hq) ho ht q) (k1 hq)
  · exact OwF.st (fun _ q => XS.ifNo X.here C.1 rfl (hb C.2.1 hd) rfl (XT.i0_eq_f hq) q) (k2 hq)
theorem ow_icmp_eq {x y : Int32} {o : Int} (C : OwC p Z s m meth c own nm bytes maxL ret) (X : Stand p l e R s m args below meth c T locs cells slots) (hd : decode bytes pc = .ok (.if_icmp .eq o, 3)) (ho : 0 ≤ (pc : Int) + o) (ht : ((pc : Int) + o).toNat = pcT) (hp : pc + 3 = pc') (k1 : x = y → OwF p e below D T (mkF m pcT Ls r)) (k2 : ¬ x = y → OwF p e below D T (mkF m pc' Ls r)) : OwF p e below D T (mkF m pc Ls (.int y :: .int x :: r)) := by
  subst hp
  by_cases hq : x = y
  · exact OwF.st (fun _ q => XS.icmpYes X.here C.1 rfl rfl (hb C.2.1 hd) rfl (XT.ii_eq_t hq) ho ht q) (k1 hq)
  · exact OwF.st (fun _ q => XS.icmpNo X.here C.1 rfl (hb C.2.1 hd) rfl (XT.ii_eq_f hq) q) (k2 hq)
theorem ow_lif_eq {x y : Int64} {o : Int} (C : OwC p Z s m meth c own nm bytes maxL ret) (X : Stand p l e R s m args below meth c T locs cells slots) (hd : decode bytes pc = .ok (.ifCond .eq o, 3)) (ho : 0 ≤ (pc : Int) + o) (ht : ((pc : Int) + o).toNat = pcT) (hp : pc + 3 = pc') (k1 : x = y → OwF p e below D T (mkF m pcT Ls r)) (k2 : ¬ x = y → OwF p e below D T (mkF m pc' Ls r)) : OwF p e below D T (mkF m pc Ls (.int (XT.cmpL x y) :: r)) := by
  subst hp
  by_cases hq : x = y
  · exact OwF.st (fun _ q => XS.ifYes X.here C.1 rfl rfl (hb C.2.1 hd) rfl (XT.ll_eq_t hq) ho ht q) (k1 hq)
  · exact OwF.st (fun _ q => XS.ifNo X.here C.1 rfl (hb C.2.1 hd) rfl (XT.ll_eq_f hq) q) (k2 hq)
theorem ow_if_ne {x : Int32} {o : Int} (C : OwC p Z s m meth c own nm bytes maxL ret) (X : Stand p l e R s m args below meth c T locs cells slots) (hd : decode bytes pc = .ok (.ifCond .ne o, 3)) (ho : 0 ≤ (pc : Int) + o) (ht : ((pc : Int) + o).toNat = pcT) (hp : pc + 3 = pc') (k1 : ¬ x = 0 → OwF p e below D T (mkF m pcT Ls r)) (k2 : x = 0 → OwF p e below D T (mkF m pc' Ls r)) : OwF p e below D T (mkF m pc Ls (.int x :: r)) := by
  subst hp
  by_cases hq : x = 0
  · exact OwF.st (fun _ q => XS.ifNo X.here C.1 rfl (hb C.2.1 hd) rfl (XT.i0_ne_f hq) q) (k2 hq)
  · exact OwF.st (fun _ q => XS.ifYes X.here C.1 rfl rfl (hb C.2.1 hd) rfl (XT.i0_ne_t hq) ho ht q) (k1 hq)
theorem ow_icmp_ne {x y : Int32} {o : Int} (C : OwC p Z s m meth c own nm bytes maxL ret) (X : Stand p l e R s m args below meth c T locs cells slots) (hd : decode bytes pc = .ok (.if_icmp .ne o, 3)) (ho : 0 ≤ (pc : Int) + o) (ht : ((pc : Int) + o).toNat = pcT) (hp : pc + 3 = pc') (k1 : ¬ x = y → OwF p e below D T (mkF m pcT Ls r)) (k2 : x = y → OwF p e below D T (mkF m pc' Ls r)) : OwF p e below D T (mkF m pc Ls (.int y :: .int x :: r)) := by
  subst hp
  by_cases hq : x = y
  · exact OwF.st (fun _ q => XS.icmpNo X.here C.1 rfl (hb C.2.1 hd) rfl (XT.ii_ne_f hq) q) (k2 hq)
  · exact OwF.st (fun _ q => XS.icmpYes X.here C.1 rfl rfl (hb C.2.1 hd) rfl (XT.ii_ne_t hq) ho ht q) (k1 hq)
theorem ow_lif_ne {x y : Int64} {o : Int} (C : OwC p Z s m meth c own nm bytes maxL ret) (X : Stand p l e R s m args below meth c T locs cells slots) (hd : decode bytes pc = .ok (.ifCond .ne o, 3)) (ho : 0 ≤ (pc : Int) + o) (ht : ((pc : Int) + o).toNat = pcT) (hp : pc + 3 = pc') (k1 : ¬ x = y → OwF p e below D T (mkF m pcT Ls r)) (k2 : x = y → OwF p e below D T (mkF m pc' Ls r)) : OwF p e below D T (mkF m pc Ls (.int (XT.cmpL x y) :: r)) := by
  subst hp
  by_cases hq : x = y
  · exact OwF.st (fun _ q => XS.ifNo X.here C.1 rfl (hb C.2.1 hd) rfl (XT.ll_ne_f hq) q) (k2 hq)
  · exact OwF.st (fun _ q => XS.ifYes X.here C.1 rfl rfl (hb C.2.1 hd) rfl (XT.ll_ne_t hq) ho ht q) (k1 hq)
theorem ow_if_lt {x : Int32} {o : Int} (C : OwC p Z s m meth c own nm bytes maxL ret) (X : Stand p l e R s m args below meth c T locs cells slots) (hd : decode bytes pc = .ok (.ifCond .lt o, 3)) (ho : 0 ≤ (pc : Int) + o) (ht : ((pc : Int) + o).toNat = pcT) (hp : pc + 3 = pc') (k1 : x < 0 → OwF p e below D T (mkF m pcT Ls r)) (k2 : ¬ x < 0 → OwF p e below D T (mkF m pc' Ls r)) : OwF p e below D T (mkF m pc Ls (.int x :: r)) := by
  subst hp
  by_cases hq : x < 0
  · exact OwF.st (fun _ q => XS.ifYes X.here C.1 rfl rfl (hb C.2.1 hd) rfl (XT.i0_lt_t hq) ho ht q) (k1 hq)
  · exact OwF.st (fun _ q => XS.ifNo X.here C.1 rfl (hb C.2.1 hd) rfl (XT.i0_lt_f hq) q) (k2 hq)
theorem ow_icmp_lt {x y : Int32} {o : Int} (C : OwC p Z s m meth c own nm bytes maxL ret) (X : Stand p l e R s m args below meth c T locs cells slots) (hd : decode bytes pc = .ok (.if_icmp .lt o, 3)) (ho : 0 ≤ (pc : Int) + o) (ht : ((pc : Int) + o).toNat = pcT) (hp : pc + 3 = pc') (k1 : x < y → OwF p e below D T (mkF m pcT Ls r)) (k2 : ¬ x < y → OwF p e below D T (mkF m pc' Ls r)) : OwF p e below D T (mkF m pc Ls (.int y :: .int x :: r)) := by
  subst hp
  by_cases hq : x < y
  · exact OwF.st (fun _ q => XS.icmpYes X.here C.1 rfl rfl (hb C.2.1 hd) rfl (XT.ii_lt_t hq) ho ht q) (k1 hq)
  · exact OwF.st (fun _ q => XS.icmpNo X.here C.1 rfl (hb C.2.1 hd) rfl (XT.ii_lt_f hq) q) (k2 hq)
theorem ow_lif_lt {x y : Int64} {o : Int} (C : OwC p Z s m meth c own nm bytes maxL ret) (X : Stand p l e R s m args below meth c T locs cells slots) (hd : decode bytes pc = .ok (.ifCond .lt o, 3)) (ho : 0 ≤ (pc : Int) + o) (ht : ((pc : Int) + o).toNat = pcT) (hp : pc + 3 = pc') (k1 : x < y → OwF p e below D T (mkF m pcT Ls r)) (k2 : ¬ x < y → OwF p e below D T (mkF m pc' Ls r)) : OwF p e below D T (mkF m pc Ls (.int (XT.cmpL x y) :: r)) := by
  subst hp
  by_cases hq : x < y
  · exact OwF.st (fun _ q => XS.ifYes X.here C.1 rfl rfl (hb C.2.1 hd) rfl (XT.ll_lt_t hq) ho ht q) (k1 hq)
  · exact OwF.st (fun _ q => XS.ifNo X.here C.1 rfl (hb C.2.1 hd) rfl (XT.ll_lt_f hq) q) (k2 hq)
theorem ow_if_ge {x : Int32} {o : Int} (C : OwC p Z s m meth c own nm bytes maxL ret) (X : Stand p l e R s m args below meth c T locs cells slots) (hd : decode bytes pc = .ok (.ifCond .ge o, 3)) (ho : 0 ≤ (pc : Int) + o) (ht : ((pc : Int) + o).toNat = pcT) (hp : pc + 3 = pc') (k1 : ¬ x < 0 → OwF p e below D T (mkF m pcT Ls r)) (k2 : x < 0 → OwF p e below D T (mkF m pc' Ls r)) : OwF p e below D T (mkF m pc Ls (.int x :: r)) := by
  subst hp
  by_cases hq : x < 0
  · exact OwF.st (fun _ q => XS.ifNo X.here C.1 rfl (hb C.2.1 hd) rfl (XT.i0_ge_f hq) q) (k2 hq)
  · exact OwF.st (fun _ q => XS.ifYes X.here C.1 rfl rfl (hb C.2.1 hd) rfl (XT.i0_ge_t hq) ho ht q) (k1 hq)
theorem ow_icmp_ge {x y : Int32} {o : Int} (C : OwC p Z s m meth c own nm bytes maxL ret) (X : Stand p l e R s m args below meth c T locs cells slots) (hd : decode bytes pc = .ok (.if_icmp .ge o, 3)) (ho : 0 ≤ (pc : Int) + o) (ht : ((pc : Int) + o).toNat = pcT) (hp : pc + 3 = pc') (k1 : ¬ x < y → OwF p e below D T (mkF m pcT Ls r)) (k2 : x < y → OwF p e below D T (mkF m pc' Ls r)) : OwF p e below D T (mkF m pc Ls (.int y :: .int x :: r)) := by
  subst hp
  by_cases hq : x < y
  · exact OwF.st (fun _ q => XS.icmpNo X.here C.1 rfl (hb C.2.1 hd) rfl (XT.ii_ge_f hq) q) (k2 hq)
  · exact OwF.st (fun _ q => XS.icmpYes X.here C.1 rfl rfl (hb C.2.1 hd) rfl (XT.ii_ge_t hq) ho ht q) (k1 hq)
theorem ow_lif_ge {x y : Int64} {o : Int} (C : OwC p Z s m meth c own nm bytes maxL ret) (X : Stand p l e R s m args below meth c T locs cells slots) (hd : decode bytes pc = .ok (.ifCond .ge o, 3)) (ho : 0 ≤ (pc : Int) + o) (ht : ((pc : Int) + o).toNat = pcT) (hp : pc + 3 = pc') (k1 : ¬ x < y → OwF p e below D T (mkF m pcT Ls r)) (k2 : x < y → OwF p e below D T (mkF m pc' Ls r)) : OwF p e below D T (mkF m pc Ls (.int (XT.cmpL x y) :: r)) := by
  subst hp
  by_cases hq : x < y
  · exact OwF.st (fun _ q => XS.ifNo X.here C.1 rfl (hb C.2.1 hd) rfl (XT.ll_ge_f hq) q) (k2 hq)
  · exact OwF.st (fun _ q => XS.ifYes X.here C.1 rfl rfl (hb C.2.1 hd) rfl (XT.ll_ge_t hq) ho ht q) (k1 hq)
theorem ow_if_gt {x : Int32} {o : Int} (C : OwC p Z s m meth c own nm bytes maxL ret) (X : Stand p l e R s m args below meth c T locs cells slots) (hd : decode bytes pc = .ok (.ifCond .gt o, 3)) (ho : 0 ≤ (pc : Int) + o) (ht : ((pc : Int) + o).toNat = pcT) (hp : pc + 3 = pc') (k1 : 0 < x → OwF p e below D T (mkF m pcT Ls r)) (k2 : ¬ 0 < x → OwF p e below D T (mkF m pc' Ls r)) : OwF p e below D T (mkF m pc Ls (.int x :: r)) := by
  subst hp
  by_cases hq : 0 < x
  · exact OwF.st (fun _ q => XS.ifYes X.here C.1 rfl rfl (hb C.2.1 hd) rfl (XT.i0_gt_t hq) ho ht q) (k1 hq)
  · exact OwF.st (fun _ q => XS.ifNo X.here C.1 rfl (hb C.2.1 hd) rfl (XT.i0_gt_f hq) q) (k2 hq)
theorem ow_icmp_gt {x y : Int32} {o : Int} (C : OwC p Z s m meth c own nm bytes maxL ret) (X : Stand p l e R s m args below meth c T locs cells slots) (hd : decode bytes pc = .ok (.if_icmp .gt o, 3)) (ho : 0 ≤ (pc : Int) + o) (ht : ((pc : Int) + o).toNat = pcT) (hp : pc + 3 = pc') (k1 : y < x → OwF p e below D T (mkF m pcT Ls r)) (k2 : ¬ y < x → OwF p e below D T (mkF m pc' Ls r)) : OwF p e below D T (mkF m pc Ls (.int y :: .int x :: r)) := by
  subst hp
  by_cases hq : y < x
  · exact OwF.st (fun _ q => XS.icmpYes X.here C.1 rfl rfl (hb C.2.1 hd) rfl (XT.ii_gt_t hq) ho ht q) (k1 hq)
  · exact OwF.st (fun _ q => XS.icmpNo X.here C.1 rfl (hb C.2.1 hd) rfl (XT.ii_gt_f hq) q) (k2 hq)
theorem ow_lif_gt {x y : Int64} {o : Int} (C : OwC p Z s m meth c own nm bytes maxL ret) (X : Stand p l e R s m args below meth c T locs cells slots) (hd : decode bytes pc = .ok (.ifCond .gt o, 3)) (ho : 0 ≤ (pc : Int) + o) (ht : ((pc : Int) + o).toNat = pcT) (hp : pc + 3 = pc') (k1 : y < x → OwF p e below D T (mkF m pcT Ls r)) (k2 : ¬ y < x → OwF p e below D T (mkF m pc' Ls r)) : OwF p e below D T (mkF m pc Ls (.int (XT.cmpL x y) :: r)) := by
  subst hp
  by_cases hq : y < x
  · exact OwF.st (fun _ q => XS.ifYes X.here C.1 rfl rfl (hb C.2.1 hd) rfl (XT.ll_gt_t hq) ho ht q) (k1 hq)
  · exact OwF.st (fun _ q => XS.ifNo X.here C.1 rfl (hb C.2.1 hd) rfl (XT.ll_gt_f hq) q) (k2 hq)
theorem ow_if_le {x : Int32} {o : Int} (C : OwC p Z s m meth c own nm bytes maxL ret) (X : Stand p l e R s m args below meth c T locs cells slots) (hd : decode bytes pc = .ok (.ifCond .le o, 3)) (ho : 0 ≤ (pc : Int) + o) (ht : ((pc : Int) + o).toNat = pcT) (hp : pc + 3 = pc') (k1 : ¬ 0 < x → OwF p e below D T (mkF m pcT Ls r)) (k2 : 0 < x → OwF p e below D T (mkF m pc' Ls r)) : OwF p e below D T (mkF m pc Ls (.int x :: r)) := by
  subst hp
  by_cases hq : 0 < x
  · exact OwF.st (fun _ q => XS.ifNo X.here C.1 rfl (hb C.2.1 hd) rfl (XT.i0_le_f hq) q) (k2 hq)
  · exact OwF.st (fun _ q => XS.ifYes X.here C.1 rfl rfl (hb C.2.1 hd) rfl (XT.i0_le_t hq) ho ht q) (k1 hq)
theorem ow_icmp_le {x y : Int32} {o : Int} (C : OwC p Z s m meth c own nm bytes maxL ret) (X : Stand p l e R s m args below meth c T locs cells slots) (hd : decode bytes pc = .ok (.if_icmp .le o, 3)) (ho : 0 ≤ (pc : Int) + o) (ht : ((pc : Int) + o).toNat = pcT) (hp : pc + 3 = pc') (k1 : ¬ y < x → OwF p e below D T (mkF m pcT Ls r)) (k2 : y < x → OwF p e below D T (mkF m pc' Ls r)) : OwF p e below D T (mkF m pc Ls (.int y :: .int x :: r)) := by
  subst hp
  by_cases hq : y < x
  · exact OwF.st (fun _ q => XS.icmpNo X.here C.1 rfl (hb C.2.1 hd) rfl (XT.ii_le_f hq) q) (k2 hq)
  · exact OwF.st (fun _ q => XS.icmpYes X.here C.1 rfl rfl (hb C.2.1 hd) rfl (XT.ii_le_t hq) ho ht q) (k1 hq)
theorem ow_lif_le {x y : Int64} {o : Int} (C : OwC p Z s m meth c own nm bytes maxL ret) (X : Stand p l e R s m args below meth c T locs cells slots) (hd : decode bytes pc = .ok (.ifCond .le o, 3)) (ho : 0 ≤ (pc : Int) + o) (ht : ((pc : Int) + o).toNat = pcT) (hp : pc + 3 = pc') (k1 : ¬ y < x → OwF p e below D T (mkF m pcT Ls r)) (k2 : y < x → OwF p e below D T (mkF m pc' Ls r)) : OwF p e below D T (mkF m pc Ls (.int (XT.cmpL x y) :: r)) := by
  subst hp
  by_cases hq : y < x
  · exact OwF.st (fun _ q => XS.ifNo X.here C.1 rfl (hb C.2.1 hd) rfl (XT.ll_le_f hq) q) (k2 hq)
  · exact OwF.st (fun _ q => XS.ifYes X.here C.1 rfl rfl (hb C.2.1 hd) rfl (XT.ll_le_t hq) ho ht q) (k1 hq)
end OwnSteps
section OwnObj
variable {p : Program} {l : Launch} {e : Env} {R : Room} {s : State} {m : MethodId} {args : Array Value} {below : List Frame} {meth : Method} {c : Code} {T : State} {locs : List Loc} {cells slots : Nat} {Z : State} {a0 : Array Value} {h : Heap}
variable {own nm : String} {bytes : ByteArray} {maxL : Nat} {ret : Option FieldType} {D : State → Outcome → Prop} {pc pc' pcT : Nat} {Ls Ls' : Array Slot} {r : List Value}
/-- what lies on a stack, in words -/
abbrev owCat (r : List Value) : Nat := (r.map fun v => v.category).sum
theorem ow_getF {O n d : String} {index : Nat} {a : Addr} {v : Value} (C : OwC p Z s m meth c own nm bytes maxL ret) (X : Stand p l e R s m args below meth c T locs cells slots) (eT : T.heap = h) (w : (Jvm.Cond.fieldLink own index O n d).before a0 Z = true) (F : Fld Z h a O n d v)
    (hd : decode bytes pc = .ok (.getfield index, 3)) (hp : pc + 3 = pc') (k : ∀ T', Stand p l e R s m args below meth c T' locs cells slots → T'.heap = h → OwF p e below D T' (mkF m pc' Ls (v :: r))) : OwF p e below D T (mkF m pc Ls (.ref a :: r)) := by
  subst hp
  obtain ⟨T', X', e', st⟩ := getF X C.1 C.2.2.2.2.2.2.2 C.2.2.2.1 (host := "") (Or.inl w) Via.refl eT F (g := mkF m pc Ls (.ref a :: r)) rfl rfl (hb C.2.1 hd)
  exact OwF.st st (k T' X' e')
theorem ow_putF {O n d K : String} {index kk : Nat} {ty : FieldType} {a : Addr} {v old : Value} (C : OwC p Z s m meth c own nm bytes maxL ret) (X : Stand p l e R s m args below meth c T locs cells slots) (eT : T.heap = h) (w : (Jvm.Cond.fieldLink own index O n d).before a0 Z = true) (F : Fld Z h a O n d old) (E : Exa Z h a K)
    (L : (Jvm.Cond.lays K O n d).before a0 Z = true ∨ ((Jvm.Cond.laysFinal K O n d).before a0 Z = true ∧ own = O ∧ nm = "<init>")) (wi : (Jvm.Cond.instantiable K kk).before a0 Z = true) (hty : parseFieldDescriptor d = some ty) (hn : narrow ty v = v) (hf : fits ty v = true)
    (hd : decode bytes pc = .ok (.putfield index, 3)) (hp : pc + 3 = pc')
    (k : ∀ T' h', Stand p l e R s m args below meth c T' (locs ++ [⟨a, Jvm.RoadKit.slotOf Z O n d⟩]) cells slots → T'.heap = h' → Wr h h' a (Jvm.RoadKit.slotOf Z O n d) v → OwF p e below D T' (mkF m pc' Ls r)) : OwF p e below D T (mkF m pc Ls (v :: .ref a :: r)) := by
  subst hp
  obtain ⟨T', h', X', e', W', st⟩ := putF X C.1 C.2.2.2.2.2.2.2 C.2.2.2.1 (host := "") (Or.inl w) Via.refl eT F E (L.imp id fun q => ⟨q.1, q.2.1, C.2.2.2.2.1.trans q.2.2⟩) wi hty hn hf (g := mkF m pc Ls (v :: .ref a :: r)) rfl rfl (hb C.2.1 hd)
  exact OwF.st st (k T' h' X' e' W')
theorem ow_getS {O n d : String} {index : Nat} {v : Value} (C : OwC p Z s m meth c own nm bytes maxL ret) (X : Stand p l e R s m args below meth c T locs cells slots) (eT : T.heap = h) (w : (Jvm.Cond.fieldLink own index O n d).before a0 Z = true) (F : Sta Z h O n d v)
    (hd : decode bytes pc = .ok (.getstatic index, 3)) (hp : pc + 3 = pc') (k : ∀ T', Stand p l e R s m args below meth c T' locs cells slots → T'.heap = h → OwF p e below D T' (mkF m pc' Ls (v :: r))) : OwF p e below D T (mkF m pc Ls r) := by
  subst hp
  obtain ⟨T', X', e', st⟩ := getS X C.1 C.2.2.2.2.2.2.2 C.2.2.2.1 (host := "") w Via.refl eT F (g := mkF m pc Ls r) rfl (hb C.2.1 hd)
  exact OwF.st st (k T' X' e')
theorem ow_new {K : String} {index n : Nat} (C : OwC p Z s m meth c own nm bytes maxL ret) (X : Stand p l e R s m args below meth c T locs cells slots) (eT : T.heap = h) (w : (Jvm.Cond.classLink own index K).before a0 Z = true) (wi : (Jvm.Cond.instantiable K n).before a0 Z = true) (wz : (Jvm.Cond.initialized K).before a0 Z = true)
    (hd : decode bytes pc = .ok (.new index, 3)) (hc : cells + 1 ≤ R.cells) (hl : slots + n ≤ R.slots) (hp : pc + 3 = pc')
    (k : ∀ T' h' a, a = h.size → Stand p l e R s m args below meth c T' locs (cells + 1) (slots + n) → T'.heap = h' → Ext h h' → Exa Z h' a K → (∀ {O nm d : String} {ty : FieldType}, Laid Z a0 K O nm d → parseFieldDescriptor d = some ty → Fld Z h' a O nm d (defaultValue ty)) → OwF p e below D T' (mkF m pc' Ls (.ref a :: r))) : OwF p e below D T (mkF m pc Ls r) := by
  subst hp
  obtain ⟨T', h', X', e', E', A', D', -, st⟩ := newO X C.1 C.2.2.2.2.2.2.2 C.2.2.2.1 w wi wz eT (g := mkF m pc Ls r) rfl (hb C.2.1 hd) hc hl
  exact OwF.st st (k T' h' _ rfl X' e' E' A' D')
theorem ow_initO {index : Nat} {a : Addr} (C : OwC p Z s m meth c own nm bytes maxL ret) (X : Stand p l e R s m args below meth c T locs cells slots) (eT : T.heap = h) (w1 : (Jvm.Cond.methodLink own index Lib.objectInit).before a0 Z = true) (w2 : (Jvm.Cond.instanceMethod Lib.objectInit).before a0 Z = true)
    (w3 : (Jvm.Cond.code Lib.objectInit ⟨#[0xb1]⟩ 1 none).before a0 Z = true) (hsz : Ls.size = maxL) (hd : decode bytes pc = .ok (.invokespecial index, 3)) (hf : 1 ≤ R.frames) (hl : owCat r + 12 ≤ R.locals) (hp : pc + 3 = pc')
    (k : ∀ T', Stand p l e R s m args below meth c T' locs cells slots → T'.heap = h → OwF p e below D T' (mkF m pc' Ls r)) : OwF p e below D T (mkF m pc Ls (.ref a :: r)) := by
  subst hp
  obtain ⟨T', X', e', st⟩ := initO X C.1 C.2.2.2.2.2.2.2 C.2.2.2.1 w1 w2 w3 eT (g := mkF m pc Ls (.ref a :: r)) rfl (by rw [C.2.2.1]; exact hsz) rfl (hb C.2.1 hd) hf (W := owCat r) (by show 2 * 0 + owCat r ≤ owCat r; omega) hl
  exact OwF.st st (k T' X' e')
/-- a static method by its contract -/
theorem ow_callS {index : Nat} {y : MethodName} {by' : ByteArray} {mx : Nat} {rt : Option FieldType} {rm : Room} {Q : Option Value → Heap → List Loc → Prop} {stk argsL rest : List Value} {ps : List FieldType} {pr : Option FieldType}
    (C : OwC p Z s m meth c own nm bytes maxL ret) (X : Stand p l e R s m args below meth c T locs cells slots) (eT : T.heap = h)
    (w1 : (Jvm.Cond.methodLink own index y).before a0 Z = true) (w2 : (Jvm.Cond.static y).before a0 Z = true) (w3 : (Jvm.Cond.initialized y.cls).before a0 Z = true) (w4 : (Jvm.Cond.code y by' mx rt).before a0 Z = true) (hy : y.cls ≠ "java/lang/invoke/MethodHandle" ∧ y.cls ≠ "java/lang/invoke/VarHandle")
    (M : OwCon l y by' mx rt rm Z argsL.toArray h Q) (hds : parseMethodDescriptor y.desc = some ⟨ps, pr⟩) (hln : argsL.length = ps.length) (hst : stk = argsL.reverse ++ rest) (hsz : Ls.size = maxL)
    (hd : decode bytes pc = .ok (.invokestatic index, 3)) (hfr : rm.frames + 1 ≤ R.frames) (hlo : owCat rest + (mx + 11) + rm.locals ≤ R.locals) (hcl : cells + rm.cells ≤ R.cells) (hsl : slots + rm.slots ≤ R.slots) (hp : pc + 3 = pc')
    (k : ∀ T' v L, Stand p l e R s m args below meth c T' (locs ++ L) (cells + rm.cells) (slots + rm.slots) → Q v T'.heap L → OwF p e below D T' (mkF m pc' Ls (v.toList ++ rest))) : OwF p e below D T (mkF m pc Ls stk) := by
  subst hp; subst hst
  have hZ := C.2.2.2.2.2.2.2
  obtain ⟨v, _, ⟨T', L', k', n'⟩, -, X', ⟨Lc, hQ, l', y', z'⟩, st⟩ := Jvm.LawKit.callS X C.1 (y := y) C.2.2.2.1 (mvT hZ w1) (mvT hZ w2) (mvT hZ w3) (mvT hZ w4) hy (backOf (W := owCat rest) (M []) hZ w4 w3 hfr hlo) (g := mkF m pc Ls (argsL.reverse ++ rest)) rfl (by rw [C.2.2.1]; exact hsz) (argsL := argsL) (rest := rest) (lenOf hds hln) rfl (by show 2 * 0 + owCat rest ≤ owCat rest; omega) (hb C.2.1 hd) (fun _ _ => ⟨rfl, eT, hcl, hsl⟩)
  dsimp only [Pt.U, Pt.locs, Pt.cells, Pt.slots] at X' l' y' z' st hQ
  subst l' y' z'
  exact OwF.st st (k T' v Lc X' hQ)
/-- a constructor by its contract -/
theorem ow_callN {index : Nat} {y : MethodName} {by' : ByteArray} {mx : Nat} {rm : Room} {Q : Option Value → Heap → List Loc → Prop} {stk argsL rest : List Value} {ps : List FieldType} {pr : Option FieldType} {a : Addr}
    (C : OwC p Z s m meth c own nm bytes maxL ret) (X : Stand p l e R s m args below meth c T locs cells slots) (eT : T.heap = h) (hni : y.name = "<init>")
    (w1 : (Jvm.Cond.methodLink own index y).before a0 Z = true) (w2 : (Jvm.Cond.instanceMethod y).before a0 Z = true) (w3 : (Jvm.Cond.initialized y.cls).before a0 Z = true) (w4 : (Jvm.Cond.code y by' mx none).before a0 Z = true) (hy : y.cls ≠ "java/lang/invoke/MethodHandle" ∧ y.cls ≠ "java/lang/invoke/VarHandle")
    (M : OwCon l y by' mx none rm Z (.ref a :: argsL).toArray h Q) (hds : parseMethodDescriptor y.desc = some ⟨ps, pr⟩) (hln : argsL.length = ps.length) (hst : stk = argsL.reverse ++ .ref a :: rest) (hsz : Ls.size = maxL)
    (hd : decode bytes pc = .ok (.invokespecial index, 3)) (hfr : rm.frames + 1 ≤ R.frames) (hlo : owCat rest + (mx + 11) + rm.locals ≤ R.locals) (hcl : cells + rm.cells ≤ R.cells) (hsl : slots + rm.slots ≤ R.slots) (hp : pc + 3 = pc')
    (k : ∀ T' v L, Stand p l e R s m args below meth c T' (locs ++ L) (cells + rm.cells) (slots + rm.slots) → Q v T'.heap L → OwF p e below D T' (mkF m pc' Ls (v.toList ++ rest))) : OwF p e below D T (mkF m pc Ls stk) := by
  subst hp; subst hst
  have hZ := C.2.2.2.2.2.2.2
  obtain ⟨v, _, ⟨T', L', k', n'⟩, -, X', ⟨Lc, hQ, l', y', z'⟩, st⟩ := X.specialBack C.1 (y := y) hni C.2.2.2.1 (mvT hZ w1) (mvT hZ w2) (mvT hZ w4) hy (backOf (W := owCat rest) (M []) hZ w4 w3 hfr hlo) (g := mkF m pc Ls (argsL.reverse ++ .ref a :: rest)) rfl (by rw [C.2.2.1]; exact hsz) (Steps.refl _) (a := a) (argsL := argsL) (rest := rest) (lenOf hds hln) rfl (by show 2 * 0 + owCat rest ≤ owCat rest; omega) (hb C.2.1 hd) (fun _ _ => ⟨rfl, eT, hcl, hsl⟩)
  dsimp only [Pt.U, Pt.locs, Pt.cells, Pt.slots] at X' l' y' z' st hQ
  subst l' y' z'
  exact OwF.st (fun _ q => st.trans q) (k T' v Lc X' hQ)
/-- an instance method by its contract -/
theorem ow_callV {K : String} {index : Nat} {y : MethodName} {by' : ByteArray} {mx : Nat} {rt : Option FieldType} {rm : Room} {Q : Option Value → Heap → List Loc → Prop} {stk argsL rest : List Value} {ps : List FieldType} {pr : Option FieldType} {a : Addr}
    (C : OwC p Z s m meth c own nm bytes maxL ret) (X : Stand p l e R s m args below meth c T locs cells slots) (eT : T.heap = h)
    (w1 : (Jvm.Cond.methodLink own index y).before a0 Z = true) (w2 : (Jvm.Cond.declares y).before a0 Z = true) (w5 : (Jvm.Cond.selects K y y).before a0 Z = true) (hK : K = y.cls) (w6 : (Jvm.Cond.instanceMethod y).before a0 Z = true) (w3 : (Jvm.Cond.initialized y.cls).before a0 Z = true) (w4 : (Jvm.Cond.code y by' mx rt).before a0 Z = true)
    (hy : y.cls ≠ "java/lang/invoke/MethodHandle" ∧ y.cls ≠ "java/lang/invoke/VarHandle") (E : Exa Z h a K)
    (M : OwCon l y by' mx rt rm Z (.ref a :: argsL).toArray h Q) (hds : parseMethodDescriptor y.desc = some ⟨ps, pr⟩) (hln : argsL.length = ps.length) (hst : stk = argsL.reverse ++ .ref a :: rest) (hsz : Ls.size = maxL)
    (hd : decode bytes pc = .ok (.invokevirtual index, 3)) (hfr : rm.frames + 1 ≤ R.frames) (hlo : owCat rest + (mx + 11) + rm.locals ≤ R.locals) (hcl : cells + rm.cells ≤ R.cells) (hsl : slots + rm.slots ≤ R.slots) (hp : pc + 3 = pc')
    (k : ∀ T' v L, Stand p l e R s m args below meth c T' (locs ++ L) (cells + rm.cells) (slots + rm.slots) → Q v T'.heap L → OwF p e below D T' (mkF m pc' Ls (v.toList ++ rest))) : OwF p e below D T (mkF m pc Ls stk) := by
  subst hp; subst hst; subst hK
  have hZ := C.2.2.2.2.2.2.2
  obtain ⟨cq, kq, q1, q2, q3⟩ := isOf hZ eT E
  obtain ⟨v, _, ⟨T', L', k', n'⟩, -, X', ⟨Lc, hQ, l', y', z'⟩, st⟩ := X.virtualBack C.1 (y := y) (z := y) C.2.2.2.1 (mvT hZ w1) (mvT hZ w2) (notFace_of_selects (args := #[]) (mvT hZ w5)) (mvT hZ w5) (mvT hZ w6) hy (backOf (W := owCat rest) (M []) hZ w4 w3 hfr hlo) q1 q3 (g := mkF m pc Ls (argsL.reverse ++ .ref a :: rest)) rfl (by rw [C.2.2.1]; exact hsz) (Steps.refl _) (argsL := argsL) (rest := rest) (lenOf hds hln) rfl (by show 2 * 0 + owCat rest ≤ owCat rest; omega) (hb C.2.1 hd) (fun _ _ => ⟨rfl, eT, hcl, hsl⟩)
  dsimp only [Pt.U, Pt.locs, Pt.cells, Pt.slots] at X' l' y' z' st hQ
  subst l' y' z'
  exact OwF.st (fun _ q => st.trans q) (k T' v Lc X' hQ)
/-- a pure answer: the value, nothing written, the heap as it was -/
abbrev OwP (v : Option Value) (h : Heap) (v' : Option Value) (h' : Heap) (L : List Loc) : Prop := v' = v ∧ L = [] ∧ h' = h
/-- a pure static method -/
theorem ow_callSP {index : Nat} {y : MethodName} {by' : ByteArray} {mx : Nat} {rt : Option FieldType} {rm : Room} {v : Value} {stk argsL rest : List Value} {ps : List FieldType} {pr : Option FieldType}
    (C : OwC p Z s m meth c own nm bytes maxL ret) (X : Stand p l e R s m args below meth c T locs cells slots) (eT : T.heap = h)
    (w1 : (Jvm.Cond.methodLink own index y).before a0 Z = true) (w2 : (Jvm.Cond.static y).before a0 Z = true) (w3 : (Jvm.Cond.initialized y.cls).before a0 Z = true) (w4 : (Jvm.Cond.code y by' mx rt).before a0 Z = true) (hy : y.cls ≠ "java/lang/invoke/MethodHandle" ∧ y.cls ≠ "java/lang/invoke/VarHandle")
    (M : OwCon l y by' mx rt rm Z argsL.toArray h (OwP (some v) h)) (hrm : rm.cells = 0 ∧ rm.slots = 0) (hds : parseMethodDescriptor y.desc = some ⟨ps, pr⟩) (hln : argsL.length = ps.length) (hst : stk = argsL.reverse ++ rest) (hsz : Ls.size = maxL)
    (hd : decode bytes pc = .ok (.invokestatic index, 3)) (hfr : rm.frames + 1 ≤ R.frames) (hlo : owCat rest + (mx + 11) + rm.locals ≤ R.locals) (hcl : cells ≤ R.cells) (hsl : slots ≤ R.slots) (hp : pc + 3 = pc')
    (k : ∀ T', Stand p l e R s m args below meth c T' locs cells slots → T'.heap = h → OwF p e below D T' (mkF m pc' Ls (v :: rest))) : OwF p e below D T (mkF m pc Ls stk) := by
  refine ow_callS C X eT w1 w2 w3 w4 hy M hds hln hst hsz hd hfr hlo (by rw [hrm.1]; exact hcl) (by rw [hrm.2]; exact hsl) hp fun T' v' L' X' hQ => ?_
  obtain ⟨rfl, rfl, hh⟩ := hQ
  rw [hrm.1, hrm.2, List.append_nil] at X'
  exact k T' X' hh
/-- a pure instance method -/
theorem ow_callVP {K : String} {index : Nat} {y : MethodName} {by' : ByteArray} {mx : Nat} {rt : Option FieldType} {rm : Room} {v : Value} {stk argsL rest : List Value} {ps : List FieldType} {pr : Option FieldType} {a : Addr}
    (C : OwC p Z s m meth c own nm bytes maxL ret) (X : Stand p l e R s m args below meth c T locs cells slots) (eT : T.heap = h)
    (w1 : (Jvm.Cond.methodLink own index y).before a0 Z = true) (w2 : (Jvm.Cond.declares y).before a0 Z = true) (w5 : (Jvm.Cond.selects K y y).before a0 Z = true) (hK : K = y.cls) (w6 : (Jvm.Cond.instanceMethod y).before a0 Z = true) (w3 : (Jvm.Cond.initialized y.cls).before a0 Z = true) (w4 : (Jvm.Cond.code y by' mx rt).before a0 Z = true)
    (hy : y.cls ≠ "java/lang/invoke/MethodHandle" ∧ y.cls ≠ "java/lang/invoke/VarHandle") (E : Exa Z h a K)
    (M : OwCon l y by' mx rt rm Z (.ref a :: argsL).toArray h (OwP (some v) h)) (hrm : rm.cells = 0 ∧ rm.slots = 0) (hds : parseMethodDescriptor y.desc = some ⟨ps, pr⟩) (hln : argsL.length = ps.length) (hst : stk = argsL.reverse ++ .ref a :: rest) (hsz : Ls.size = maxL)
    (hd : decode bytes pc = .ok (.invokevirtual index, 3)) (hfr : rm.frames + 1 ≤ R.frames) (hlo : owCat rest + (mx + 11) + rm.locals ≤ R.locals) (hcl : cells ≤ R.cells) (hsl : slots ≤ R.slots) (hp : pc + 3 = pc')
    (k : ∀ T', Stand p l e R s m args below meth c T' locs cells slots → T'.heap = h → OwF p e below D T' (mkF m pc' Ls (v :: rest))) : OwF p e below D T (mkF m pc Ls stk) := by
  refine ow_callV C X eT w1 w2 w5 hK w6 w3 w4 hy E M hds hln hst hsz hd hfr hlo (by rw [hrm.1]; exact hcl) (by rw [hrm.2]; exact hsl) hp fun T' v' L' X' hQ => ?_
  obtain ⟨rfl, rfl, hh⟩ := hQ
  rw [hrm.1, hrm.2, List.append_nil] at X'
  exact k T' X' hh
/-- a constructor that leaves all as it is -/
theorem ow_callNP {index : Nat} {y : MethodName} {by' : ByteArray} {mx : Nat} {rm : Room} {stk argsL rest : List Value} {ps : List FieldType} {pr : Option FieldType} {a : Addr}
    (C : OwC p Z s m meth c own nm bytes maxL ret) (X : Stand p l e R s m args below meth c T locs cells slots) (eT : T.heap = h) (hni : y.name = "<init>")
    (w1 : (Jvm.Cond.methodLink own index y).before a0 Z = true) (w2 : (Jvm.Cond.instanceMethod y).before a0 Z = true) (w3 : (Jvm.Cond.initialized y.cls).before a0 Z = true) (w4 : (Jvm.Cond.code y by' mx none).before a0 Z = true) (hy : y.cls ≠ "java/lang/invoke/MethodHandle" ∧ y.cls ≠ "java/lang/invoke/VarHandle")
    (M : OwCon l y by' mx none rm Z (.ref a :: argsL).toArray h (OwP none h)) (hrm : rm.cells = 0 ∧ rm.slots = 0) (hds : parseMethodDescriptor y.desc = some ⟨ps, pr⟩) (hln : argsL.length = ps.length) (hst : stk = argsL.reverse ++ .ref a :: rest) (hsz : Ls.size = maxL)
    (hd : decode bytes pc = .ok (.invokespecial index, 3)) (hfr : rm.frames + 1 ≤ R.frames) (hlo : owCat rest + (mx + 11) + rm.locals ≤ R.locals) (hcl : cells ≤ R.cells) (hsl : slots ≤ R.slots) (hp : pc + 3 = pc')
    (k : ∀ T', Stand p l e R s m args below meth c T' locs cells slots → T'.heap = h → OwF p e below D T' (mkF m pc' Ls rest)) : OwF p e below D T (mkF m pc Ls stk) := by
  refine ow_callN C X eT hni w1 w2 w3 w4 hy M hds hln hst hsz hd hfr hlo (by rw [hrm.1]; exact hcl) (by rw [hrm.2]; exact hsl) hp fun T' v' L' X' hQ => ?_
  obtain ⟨rfl, rfl, hh⟩ := hQ
  rw [hrm.1, hrm.2, List.append_nil] at X'
  exact k T' X' hh
end OwnObj
section OwnArr
variable {p : Program} {l : Launch} {e : Env} {R : Room} {s : State} {m : MethodId} {args : Array Value} {below : List Frame} {meth : Method} {c : Code} {T : State} {locs : List Loc} {cells slots : Nat} {Z : State} {a0 : Array Value} {h h' : Heap}
variable {own nm : String} {bytes : ByteArray} {maxL : Nat} {ret : Option FieldType} {D : State → Outcome → Prop} {pc pc' pcT : Nat} {Ls Ls' : Array Slot} {r : List Value}
variable {a b : Addr} {ty : FieldType} {n i : Nat} {f g : Nat → Value} {v : Value} {sl : Nat} {ws : List Addr} {K : String} {kk : Nat}
/-- an array of n places, place j holds f j -/
def OwA (Z : State) (h : Heap) (a : Addr) (ty : FieldType) (n : Nat) (f : Nat → Value) : Prop := ∃ c : Cell, Arr Z h a c ty ∧ c.slots.size = n ∧ ∀ j, j < n → c.slots[j]? = some (f j)
theorem OwA.lt (A : OwA Z h a ty n f) : a < h.size := by obtain ⟨c, A, -⟩ := A; exact A.lt
theorem OwA.ext (A : OwA Z h a ty n f) (E : Ext h h') : OwA Z h' a ty n f := by obtain ⟨c, A, r⟩ := A; exact ⟨c, A.ext E, r⟩
theorem OwA.other (A : OwA Z h b ty n f) (W : Wr h h' a sl v) (q : b ≠ a) : OwA Z h' b ty n f := by obtain ⟨c, A, r⟩ := A; exact ⟨c, A.other W q, r⟩
theorem OwA.keep (A : OwA Z h a ty n f) (K : Keep h h' ws) (q : a ∉ ws) : OwA Z h' a ty n f := by obtain ⟨c, A, r⟩ := A; exact ⟨c, ⟨K.2.1 a c A.1 q, A.2⟩, r⟩
theorem OwA.congr (A : OwA Z h a ty n f) (q : ∀ j, j < n → f j = g j) : OwA Z h a ty n g := by obtain ⟨c, A, S, H⟩ := A; exact ⟨c, A, S, fun j hj => by rw [← q j hj]; exact H j hj⟩
theorem OwA.set (A : OwA Z h a ty n f) (W : Wr h h' a i v) : OwA Z h' a ty n (fun j => if j = i then v else f j) := by
  obtain ⟨c, A, S, H⟩ := A
  refine ⟨c.setSlot i v, A.same W, by rw [sz_set]; exact S, fun j hj => ?_⟩
  show (c.slots.setIfInBounds i v)[j]? = some (if j = i then v else f j)
  by_cases q : j = i
  · subst q
    rw [if_pos rfl, Array.getElem?_setIfInBounds_self_of_lt (by omega)]
  · rw [if_neg q, Array.getElem?_setIfInBounds_ne (fun w => q w.symm)]; exact H j hj
theorem OwA.new {k : ClassId} {z : Int32} (A : Arr Z h a (newA k ty z) ty) : OwA Z h a ty z.toNatClampNeg (fun _ => defaultValue ty) := by
  refine ⟨_, A, sz_new _ _ _, fun j hj => ?_⟩
  show (Array.replicate z.toNatClampNeg (defaultValue ty))[j]? = _
  rw [Array.getElem?_replicate, if_pos hj]
theorem OwA.ne (A : OwA Z h b ty n f) (E : Exa Z h a K) (wi : (Jvm.Cond.instantiable K kk).before a0 Z = true) : a ≠ b := by obtain ⟨c, A, -⟩ := A; exact ne_arr E wi A
theorem ow_newarr {aty : ArrayType} {z : Int32} {N cap : Nat} (C : OwC p Z s m meth c own nm bytes maxL ret) (X : Stand p l e R s m args below meth c T locs cells slots) (eT : T.heap = h) (w : (Jvm.Cond.arrayClass (newarray.typeOf aty)).before a0 Z = true) (hd : decode bytes pc = .ok (.newarray aty, 2))
    (hn : ¬ z < 0) (hN : z.toNatClampNeg = N) (hcap : N ≤ cap) (hb8 : cap * 8 ≤ 536870912) (hc : cells + 1 ≤ R.cells) (hl : slots + cap ≤ R.slots) (hp : pc + 2 = pc')
    (k : ∀ T' h' a, a = h.size → Stand p l e R s m args below meth c T' locs (cells + 1) (slots + cap) → T'.heap = h' → Ext h h' → OwA Z h' a (newarray.typeOf aty) N (fun _ => defaultValue (newarray.typeOf aty)) → OwF p e below D T' (mkF m pc' Ls (.ref a :: r))) : OwF p e below D T (mkF m pc Ls (.int z :: r)) := by
  subst hp; subst hN
  obtain ⟨T', h', cA, X', e', E', A', st⟩ := newP X C.1 C.2.2.2.2.2.2.2 w eT (g := mkF m pc Ls (.int z :: r)) rfl (hb C.2.1 hd) rfl hn hcap hb8 hc hl
  exact OwF.st st (k T' h' _ rfl X' e' E' (OwA.new A'))
theorem ow_arraylength {z : Int32} (C : OwC p Z s m meth c own nm bytes maxL ret) (X : Stand p l e R s m args below meth c T locs cells slots) (eT : T.heap = h) (A : OwA Z h a ty n f) (hz : n.toInt32 = z) (hd : decode bytes pc = .ok (.arraylength, 1)) (hp : pc + 1 = pc')
    (k : OwF p e below D T (mkF m pc' Ls (.int z :: r))) : OwF p e below D T (mkF m pc Ls (.ref a :: r)) := by
  subst hp; subst hz
  obtain ⟨cl, A, S, -⟩ := A
  subst S
  exact OwF.st (fun t q => X.arraylength C.1 (by rw [eT]; exact A.1) (State.isArrayOf_alike C.2.2.2.2.2.2.2.alike A.2.1) (g := mkF m pc Ls (.ref a :: r)) rfl rfl (hb C.2.1 hd) t q) k
theorem ow_iaload {z : Int32} (C : OwC p Z s m meth c own nm bytes maxL ret) (X : Stand p l e R s m args below meth c T locs cells slots) (eT : T.heap = h) (A : OwA Z h a .int n f) (h0 : ¬ z < 0) (hj : z.toNatClampNeg = i) (hlt : i < n) (hv : f i = v) (hd : decode bytes pc = .ok (.iaload, 1)) (hp : pc + 1 = pc')
    (k : OwF p e below D T (mkF m pc' Ls (v :: r))) : OwF p e below D T (mkF m pc Ls (.int z :: .ref a :: r)) := by
  subst hp; subst hj; subst hv
  obtain ⟨cl, A, S, H⟩ := A
  exact OwF.st (fun t q => X.iaload C.1 (by rw [eT]; exact A.1) (State.isArrayOf_alike C.2.2.2.2.2.2.2.alike A.2.1) A.2.2 (fun w => w.elim h0 (fun w => by omega)) (H _ hlt) (g := mkF m pc Ls (.int z :: .ref a :: r)) rfl rfl (hb C.2.1 hd) t q) k
theorem ow_laload {z : Int32} (C : OwC p Z s m meth c own nm bytes maxL ret) (X : Stand p l e R s m args below meth c T locs cells slots) (eT : T.heap = h) (A : OwA Z h a .long n f) (h0 : ¬ z < 0) (hj : z.toNatClampNeg = i) (hlt : i < n) (hv : f i = v) (hd : decode bytes pc = .ok (.laload, 1)) (hp : pc + 1 = pc')
    (k : OwF p e below D T (mkF m pc' Ls (v :: r))) : OwF p e below D T (mkF m pc Ls (.int z :: .ref a :: r)) := by
  subst hp; subst hj; subst hv
  obtain ⟨cl, A, S, H⟩ := A
  exact OwF.st (fun t q => X.laload C.1 (by rw [eT]; exact A.1) (State.isArrayOf_alike C.2.2.2.2.2.2.2.alike A.2.1) A.2.2 (fun w => w.elim h0 (fun w => by omega)) (H _ hlt) (g := mkF m pc Ls (.int z :: .ref a :: r)) rfl rfl (hb C.2.1 hd) t q) k
theorem ow_caload {z : Int32} (C : OwC p Z s m meth c own nm bytes maxL ret) (X : Stand p l e R s m args below meth c T locs cells slots) (eT : T.heap = h) (A : OwA Z h a .char n f) (h0 : ¬ z < 0) (hj : z.toNatClampNeg = i) (hlt : i < n) (hv : f i = v) (hd : decode bytes pc = .ok (.caload, 1)) (hp : pc + 1 = pc')
    (k : OwF p e below D T (mkF m pc' Ls (v :: r))) : OwF p e below D T (mkF m pc Ls (.int z :: .ref a :: r)) := by
  subst hp; subst hj; subst hv
  obtain ⟨cl, A, S, H⟩ := A
  exact OwF.st (fun t q => X.caload C.1 (by rw [eT]; exact A.1) (State.isArrayOf_alike C.2.2.2.2.2.2.2.alike A.2.1) A.2.2 (fun w => w.elim h0 (fun w => by omega)) (H _ hlt) (g := mkF m pc Ls (.int z :: .ref a :: r)) rfl rfl (hb C.2.1 hd) t q) k
theorem ow_saload {z : Int32} (C : OwC p Z s m meth c own nm bytes maxL ret) (X : Stand p l e R s m args below meth c T locs cells slots) (eT : T.heap = h) (A : OwA Z h a .short n f) (h0 : ¬ z < 0) (hj : z.toNatClampNeg = i) (hlt : i < n) (hv : f i = v) (hd : decode bytes pc = .ok (.saload, 1)) (hp : pc + 1 = pc')
    (k : OwF p e below D T (mkF m pc' Ls (v :: r))) : OwF p e below D T (mkF m pc Ls (.int z :: .ref a :: r)) := by
  subst hp; subst hj; subst hv
  obtain ⟨cl, A, S, H⟩ := A
  exact OwF.st (fun t q => X.saload C.1 (by rw [eT]; exact A.1) (State.isArrayOf_alike C.2.2.2.2.2.2.2.alike A.2.1) A.2.2 (fun w => w.elim h0 (fun w => by omega)) (H _ hlt) (g := mkF m pc Ls (.int z :: .ref a :: r)) rfl rfl (hb C.2.1 hd) t q) k
theorem ow_aaload {z : Int32} (C : OwC p Z s m meth c own nm bytes maxL ret) (X : Stand p l e R s m args below meth c T locs cells slots) (eT : T.heap = h) (A : OwA Z h a ty n f) (hty : ty.isReference = true) (h0 : ¬ z < 0) (hj : z.toNatClampNeg = i) (hlt : i < n) (hv : f i = v) (hd : decode bytes pc = .ok (.aaload, 1)) (hp : pc + 1 = pc')
    (k : OwF p e below D T (mkF m pc' Ls (v :: r))) : OwF p e below D T (mkF m pc Ls (.int z :: .ref a :: r)) := by
  subst hp; subst hj; subst hv
  obtain ⟨cl, A, S, H⟩ := A
  exact OwF.st (fun t q => X.aaload C.1 (by rw [eT]; exact A.1) (State.isArrayOf_alike C.2.2.2.2.2.2.2.alike A.2.1) hty A.2.2 (fun w => w.elim h0 (fun w => by omega)) (H _ hlt) (g := mkF m pc Ls (.int z :: .ref a :: r)) rfl rfl (hb C.2.1 hd) t q) k
theorem ow_baload {z : Int32} (C : OwC p Z s m meth c own nm bytes maxL ret) (X : Stand p l e R s m args below meth c T locs cells slots) (eT : T.heap = h) (A : OwA Z h a .byte n f) (h0 : ¬ z < 0) (hj : z.toNatClampNeg = i) (hlt : i < n) (hv : f i = v) (hd : decode bytes pc = .ok (.baload, 1)) (hp : pc + 1 = pc')
    (k : OwF p e below D T (mkF m pc' Ls (v :: r))) : OwF p e below D T (mkF m pc Ls (.int z :: .ref a :: r)) := by
  subst hp; subst hj; subst hv
  obtain ⟨cl, A, S, H⟩ := A
  exact OwF.st (fun t q => X.baloadBytes C.1 (by rw [eT]; exact A.1) (State.isArrayOf_alike C.2.2.2.2.2.2.2.alike A.2.1) A.2.2 (fun w => w.elim h0 (fun w => by omega)) (H _ hlt) (g := mkF m pc Ls (.int z :: .ref a :: r)) rfl rfl (hb C.2.1 hd) t q) k
theorem ow_iastore {z : Int32} {x : Int32} (C : OwC p Z s m meth c own nm bytes maxL ret) (X : Stand p l e R s m args below meth c T locs cells slots) (eT : T.heap = h) (A : OwA Z h a .int n f) (h0 : ¬ z < 0) (hj : z.toNatClampNeg = i) (hlt : i < n) (hd : decode bytes pc = .ok (.iastore, 1)) (hp : pc + 1 = pc')
    (k : ∀ T' h', Stand p l e R s m args below meth c T' (locs ++ [⟨a, i⟩]) cells slots → T'.heap = h' → Wr h h' a i (.int x) → OwF p e below D T' (mkF m pc' Ls r)) : OwF p e below D T (mkF m pc Ls (.int x :: .int z :: .ref a :: r)) := by
  subst hp; subst hj
  obtain ⟨cl, A, S, H⟩ := A
  obtain ⟨T', h', X', e', W', st⟩ := stI X C.1 C.2.2.2.2.2.2.2 eT A (j := z) (x := x) (fun w => w.elim h0 (fun w => by omega)) (g := mkF m pc Ls (.int x :: .int z :: .ref a :: r)) rfl rfl (hb C.2.1 hd)
  exact OwF.st st (k T' h' X' e' W')
theorem ow_lastore {z : Int32} {x : Int64} (C : OwC p Z s m meth c own nm bytes maxL ret) (X : Stand p l e R s m args below meth c T locs cells slots) (eT : T.heap = h) (A : OwA Z h a .long n f) (h0 : ¬ z < 0) (hj : z.toNatClampNeg = i) (hlt : i < n) (hd : decode bytes pc = .ok (.lastore, 1)) (hp : pc + 1 = pc')
    (k : ∀ T' h', Stand p l e R s m args below meth c T' (locs ++ [⟨a, i⟩]) cells slots → T'.heap = h' → Wr h h' a i (.long x) → OwF p e below D T' (mkF m pc' Ls r)) : OwF p e below D T (mkF m pc Ls (.long x :: .int z :: .ref a :: r)) := by
  subst hp; subst hj
  obtain ⟨cl, A, S, H⟩ := A
  obtain ⟨T', h', X', e', W', st⟩ := stJ X C.1 C.2.2.2.2.2.2.2 eT A (j := z) (x := x) (fun w => w.elim h0 (fun w => by omega)) (g := mkF m pc Ls (.long x :: .int z :: .ref a :: r)) rfl rfl (hb C.2.1 hd)
  exact OwF.st st (k T' h' X' e' W')
theorem ow_castore {z : Int32} {x : Int32} (C : OwC p Z s m meth c own nm bytes maxL ret) (X : Stand p l e R s m args below meth c T locs cells slots) (eT : T.heap = h) (A : OwA Z h a .char n f) (h0 : ¬ z < 0) (hj : z.toNatClampNeg = i) (hlt : i < n) (hd : decode bytes pc = .ok (.castore, 1)) (hp : pc + 1 = pc')
    (k : ∀ T' h', Stand p l e R s m args below meth c T' (locs ++ [⟨a, i⟩]) cells slots → T'.heap = h' → Wr h h' a i (.int (nar .char x)) → OwF p e below D T' (mkF m pc' Ls r)) : OwF p e below D T (mkF m pc Ls (.int x :: .int z :: .ref a :: r)) := by
  subst hp; subst hj
  obtain ⟨cl, A, S, H⟩ := A
  obtain ⟨T', h', X', e', W', st⟩ := stC X C.1 C.2.2.2.2.2.2.2 eT A (j := z) (x := x) (fun w => w.elim h0 (fun w => by omega)) (g := mkF m pc Ls (.int x :: .int z :: .ref a :: r)) rfl rfl (hb C.2.1 hd)
  exact OwF.st st (k T' h' X' e' W')
theorem ow_sastore {z : Int32} {x : Int32} (C : OwC p Z s m meth c own nm bytes maxL ret) (X : Stand p l e R s m args below meth c T locs cells slots) (eT : T.heap = h) (A : OwA Z h a .short n f) (h0 : ¬ z < 0) (hj : z.toNatClampNeg = i) (hlt : i < n) (hd : decode bytes pc = .ok (.sastore, 1)) (hp : pc + 1 = pc')
    (k : ∀ T' h', Stand p l e R s m args below meth c T' (locs ++ [⟨a, i⟩]) cells slots → T'.heap = h' → Wr h h' a i (.int (nar .short x)) → OwF p e below D T' (mkF m pc' Ls r)) : OwF p e below D T (mkF m pc Ls (.int x :: .int z :: .ref a :: r)) := by
  subst hp; subst hj
  obtain ⟨cl, A, S, H⟩ := A
  obtain ⟨T', h', X', e', W', st⟩ := stS X C.1 C.2.2.2.2.2.2.2 eT A (j := z) (x := x) (fun w => w.elim h0 (fun w => by omega)) (g := mkF m pc Ls (.int x :: .int z :: .ref a :: r)) rfl rfl (hb C.2.1 hd)
  exact OwF.st st (k T' h' X' e' W')
theorem ow_bastore {z : Int32} {x : Int32} (C : OwC p Z s m meth c own nm bytes maxL ret) (X : Stand p l e R s m args below meth c T locs cells slots) (eT : T.heap = h) (A : OwA Z h a .byte n f) (h0 : ¬ z < 0) (hj : z.toNatClampNeg = i) (hlt : i < n) (hd : decode bytes pc = .ok (.bastore, 1)) (hp : pc + 1 = pc')
    (k : ∀ T' h', Stand p l e R s m args below meth c T' (locs ++ [⟨a, i⟩]) cells slots → T'.heap = h' → Wr h h' a i (.int (nar .byte x)) → OwF p e below D T' (mkF m pc' Ls r)) : OwF p e below D T (mkF m pc Ls (.int x :: .int z :: .ref a :: r)) := by
  subst hp; subst hj
  obtain ⟨cl, A, S, H⟩ := A
  obtain ⟨T', h', X', e', W', st⟩ := stB X C.1 C.2.2.2.2.2.2.2 eT A (j := z) (x := x) (fun w => w.elim h0 (fun w => by omega)) (g := mkF m pc Ls (.int x :: .int z :: .ref a :: r)) rfl rfl (hb C.2.1 hd)
  exact OwF.st st (k T' h' X' e' W')
end OwnArr
section OwnRef
variable {p : Program} {l : Launch} {e : Env} {R : Room} {s : State} {m : MethodId} {args : Array Value} {below : List Frame} {meth : Method} {c : Code} {T : State} {locs : List Loc} {cells slots : Nat} {Z : State} {a0 : Array Value} {h h' : Heap}
variable {own nm : String} {bytes : ByteArray} {maxL : Nat} {ret : Option FieldType} {D : State → Outcome → Prop} {pc pc' pcT : Nat} {Ls Ls' : Array Slot} {r : List Value} {a : Addr} {K K2 : String} {index n : Nat} {v : Value} {t : FieldType}
theorem ow_retA {Q : Option Value → Heap → List Loc → Prop} {kc ks : Nat} (C : OwC p Z s m meth c own nm bytes maxL (some t)) (X : Stand p l e R s m args below meth c T locs cells slots) (hd : decode bytes pc = .ok (.areturn, 1)) (hc : cells ≤ kc) (hs : slots ≤ ks) (hv : v.isRef = true) (ht : t.isReference = true)
    (hQ : Q (some v) T.heap locs) : OwF p e below (OwD s below Q kc ks) T (mkF m pc Ls [v]) := by
  obtain ⟨hx, hby, -, -, -, hret, hlk, -⟩ := C
  obtain ⟨fs, hr, hrun, hended, hW, hsame⟩ := X.leave (v := some v) (fun h => by rw [hret] at h; cases h) hlk
  exact ⟨_, _, X.areturnOut hx hv hret ht (hb hby hd) hr, hrun, hended, _, _, rfl, hQ, ⟨_, rfl⟩, hW, hsame.mono hc hs⟩
theorem ow_instNull (C : OwC p Z s m meth c own nm bytes maxL ret) (X : Stand p l e R s m args below meth c T locs cells slots) (hd : decode bytes pc = .ok (.instanceof index, 3)) (hp : pc + 3 = pc') (k : OwF p e below D T (mkF m pc' Ls (.int 0 :: r))) : OwF p e below D T (mkF m pc Ls (.null :: r)) := by
  subst hp; exact OwF.st (fun t q => X.instanceofNull C.1 (g := mkF m pc Ls (.null :: r)) rfl rfl (hb C.2.1 hd) t q) k
theorem ow_instY (C : OwC p Z s m meth c own nm bytes maxL ret) (X : Stand p l e R s m args below meth c T locs cells slots) (eT : T.heap = h) (w : (Jvm.Cond.classLink own index K).before a0 Z = true) (F : Ins Z h a K true) (hd : decode bytes pc = .ok (.instanceof index, 3)) (hp : pc + 3 = pc')
    (k : ∀ T', Stand p l e R s m args below meth c T' locs cells slots → T'.heap = h → OwF p e below D T' (mkF m pc' Ls (.int 1 :: r))) : OwF p e below D T (mkF m pc Ls (.ref a :: r)) := by
  subst hp
  obtain ⟨T', X', e', st⟩ := instY X C.1 C.2.2.2.2.2.2.2 C.2.2.2.1 w eT F (g := mkF m pc Ls (.ref a :: r)) rfl rfl (hb C.2.1 hd)
  exact OwF.st st (k T' X' e')
theorem ow_instN (C : OwC p Z s m meth c own nm bytes maxL ret) (X : Stand p l e R s m args below meth c T locs cells slots) (eT : T.heap = h) (w : (Jvm.Cond.classLink own index K).before a0 Z = true) (E : Exa Z h a K2) (F : ∃ c t, Z.vm.findClass K2 = some c ∧ Z.vm.findClass K = some t ∧ Z.vm.assignable c t = false) (hd : decode bytes pc = .ok (.instanceof index, 3)) (hp : pc + 3 = pc')
    (k : ∀ T', Stand p l e R s m args below meth c T' locs cells slots → T'.heap = h → OwF p e below D T' (mkF m pc' Ls (.int 0 :: r))) : OwF p e below D T (mkF m pc Ls (.ref a :: r)) := by
  subst hp
  obtain ⟨T', X', e', st⟩ := instNo X C.1 C.2.2.2.2.2.2.2 C.2.2.2.1 w eT E F (g := mkF m pc Ls (.ref a :: r)) rfl rfl (hb C.2.1 hd)
  exact OwF.st st (k T' X' e')
theorem ow_cast (C : OwC p Z s m meth c own nm bytes maxL ret) (X : Stand p l e R s m args below meth c T locs cells slots) (eT : T.heap = h) (w : (Jvm.Cond.classLink own index K).before a0 Z = true) (F : Ins Z h a K true) (hd : decode bytes pc = .ok (.checkcast index, 3)) (hp : pc + 3 = pc')
    (k : ∀ T', Stand p l e R s m args below meth c T' locs cells slots → T'.heap = h → OwF p e below D T' (mkF m pc' Ls (.ref a :: r))) : OwF p e below D T (mkF m pc Ls (.ref a :: r)) := by
  subst hp
  obtain ⟨T', X', e', st⟩ := castY X C.1 C.2.2.2.2.2.2.2 C.2.2.2.1 w eT F (g := mkF m pc Ls (.ref a :: r)) rfl rfl (hb C.2.1 hd)
  exact OwF.st st (k T' X' e')
theorem ow_ifnull_n {o : Int} (C : OwC p Z s m meth c own nm bytes maxL ret) (X : Stand p l e R s m args below meth c T locs cells slots) (hd : decode bytes pc = .ok (.ifnull o, 3)) (ho : 0 ≤ (pc : Int) + o) (ht : ((pc : Int) + o).toNat = pcT) (k : OwF p e below D T (mkF m pcT Ls r)) : OwF p e below D T (mkF m pc Ls (.null :: r)) :=
  OwF.st (fun _ q => XS.ifnullYes X.here C.1 rfl rfl (hb C.2.1 hd) rfl ho ht q) k
theorem ow_ifnull_r {o : Int} (C : OwC p Z s m meth c own nm bytes maxL ret) (X : Stand p l e R s m args below meth c T locs cells slots) (hd : decode bytes pc = .ok (.ifnull o, 3)) (hp : pc + 3 = pc') (k : OwF p e below D T (mkF m pc' Ls r)) : OwF p e below D T (mkF m pc Ls (.ref a :: r)) := by
  subst hp; exact OwF.st (fun _ q => XS.ifnullNo X.here C.1 rfl (hb C.2.1 hd) rfl q) k
theorem ow_ifnonnull_n {o : Int} (C : OwC p Z s m meth c own nm bytes maxL ret) (X : Stand p l e R s m args below meth c T locs cells slots) (hd : decode bytes pc = .ok (.ifnonnull o, 3)) (hp : pc + 3 = pc') (k : OwF p e below D T (mkF m pc' Ls r)) : OwF p e below D T (mkF m pc Ls (.null :: r)) := by
  subst hp; exact OwF.st (fun _ q => XT.ifnonnullNo X.here C.1 rfl (hb C.2.1 hd) rfl q) k
theorem ow_ifnonnull_r {o : Int} (C : OwC p Z s m meth c own nm bytes maxL ret) (X : Stand p l e R s m args below meth c T locs cells slots) (hd : decode bytes pc = .ok (.ifnonnull o, 3)) (ho : 0 ≤ (pc : Int) + o) (ht : ((pc : Int) + o).toNat = pcT) (k : OwF p e below D T (mkF m pcT Ls r)) : OwF p e below D T (mkF m pc Ls (.ref a :: r)) :=
  OwF.st (fun _ q => XT.ifnonnullYes X.here C.1 rfl rfl (hb C.2.1 hd) rfl ho ht q) k
theorem ow_acmpY {cd : ClassFile.ACond} {x y : Value} {o : Int} (C : OwC p Z s m meth c own nm bytes maxL ret) (X : Stand p l e R s m args below meth c T locs cells slots) (hd : decode bytes pc = .ok (.if_acmp cd o, 3)) (hx : x.isRef = true) (hy : y.isRef = true) (hc : XT.acmp cd x y = true) (ho : 0 ≤ (pc : Int) + o) (ht : ((pc : Int) + o).toNat = pcT) (k : OwF p e below D T (mkF m pcT Ls r)) : OwF p e below D T (mkF m pc Ls (y :: x :: r)) :=
  OwF.st (fun _ q => XT.acmpYes X.here C.1 rfl rfl (hb C.2.1 hd) rfl hx hy hc ho ht q) k
theorem ow_acmpN {cd : ClassFile.ACond} {x y : Value} {o : Int} (C : OwC p Z s m meth c own nm bytes maxL ret) (X : Stand p l e R s m args below meth c T locs cells slots) (hd : decode bytes pc = .ok (.if_acmp cd o, 3)) (hx : x.isRef = true) (hy : y.isRef = true) (hc : XT.acmp cd x y = false) (hp : pc + 3 = pc') (k : OwF p e below D T (mkF m pc' Ls r)) : OwF p e below D T (mkF m pc Ls (y :: x :: r)) := by
  subst hp; exact OwF.st (fun _ q => XT.acmpNo X.here C.1 rfl (hb C.2.1 hd) rfl hx hy hc q) k
theorem ow_clone {ad : String} {cl : Cell} {cap : Nat} (C : OwC p Z s m meth c own nm bytes maxL ret) (X : Stand p l e R s m args below meth c T locs cells slots) (eT : T.heap = h)
    (w1 : (Jvm.Cond.methodLink own index ⟨ad, "clone", "()Ljava/lang/Object;"⟩).before a0 Z = true) (w2 : (Jvm.Cond.sameMethod ad "java/lang/Object" "clone" "()Ljava/lang/Object;").before a0 Z = true) (w3 : (Jvm.Cond.native ⟨"java/lang/Object", "clone", "()Ljava/lang/Object;"⟩).before a0 Z = true)
    (w4 : (Jvm.Cond.instanceMethod ⟨"java/lang/Object", "clone", "()Ljava/lang/Object;"⟩).before a0 Z = true) (w5 : (Jvm.Cond.selects ad ⟨ad, "clone", "()Ljava/lang/Object;"⟩ ⟨"java/lang/Object", "clone", "()Ljava/lang/Object;"⟩).before a0 Z = true) (w6 : (Jvm.Cond.castable ad "java/lang/Cloneable").before a0 Z = true)
    (A : Arr Z h a cl t) (E : Exa Z h a ad) (F : FitC Z cl) (hsz : Ls.size = maxL) (hd : decode bytes pc = .ok (.invokevirtual index, 3)) (hf : 1 ≤ R.frames) (hl : owCat r + 14 ≤ R.locals) (hcap : cl.slots.size ≤ cap) (hc : cells + 1 ≤ R.cells) (hsl : slots + cap ≤ R.slots) (hp : pc + 3 = pc')
    (k : ∀ T' h' b, b = h.size → Stand p l e R s m args below meth c T' locs (cells + 1) (slots + cap) → T'.heap = h' → Ext h h' → Arr Z h' b (Jvm.RoadKit.cloneOf cl) t → Exa Z h' b ad → OwF p e below D T' (mkF m pc' Ls (.ref b :: r))) : OwF p e below D T (mkF m pc Ls (.ref a :: r)) := by
  subst hp
  obtain ⟨T', h', X', e', E', A', Ex', st⟩ := cloneA X C.1 C.2.2.2.2.2.2.2 C.2.2.2.1 w1 w2 w3 w4 w5 w6 eT A E F (g := mkF m pc Ls (.ref a :: r)) rfl (by rw [C.2.2.1]; exact hsz) rfl (hb C.2.1 hd) hf (W := owCat r) (by show 2 * 0 + owCat r ≤ owCat r; omega) hl hcap hc hsl
  exact OwF.st st (k T' h' _ rfl X' e' E' A' Ex')
/-- C's chain of superclasses doesn't meet an instantiable K -/
theorem own_ns0 {O : String} (w : (Jvm.Cond.noSuperclass O).before a0 Z = true) (wk : (Jvm.Cond.instantiable K n).before a0 Z = true) (hn : O ≠ K) : NS Z O K := by
  obtain ⟨c, k, h1, h2, h3, -, -⟩ := Cond.noSuperclass_spec w
  obtain ⟨t, _, g1, -⟩ := Cond.instantiable_spec wk
  have ne := ids_ne h1 g1 hn
  refine ⟨c, t, h1, g1, fun fuel => ?_⟩
  cases fuel with
  | zero => rfl
  | succ f => simp [Vm.isSubclassAux, ne, h2, h3]
theorem own_ns1 {S : String} (w : (Jvm.Cond.superclass K2 S).before a0 Z = true) (wk : (Jvm.Cond.instantiable K n).before a0 Z = true) (q : NS Z K2 K) (hn : K2 ≠ K) : ∃ c t, Z.vm.findClass K2 = some c ∧ Z.vm.findClass K = some t ∧ Z.vm.assignable c t = false := by
  obtain ⟨c, t, h0, g0, n3⟩ := q
  obtain ⟨p, k, kp, h1, h2, h3, h4, h5, -, h7⟩ := Cond.superclass_spec h0 w
  obtain ⟨t', k', g1, g2, g5, g6, -⟩ := Cond.instantiable_spec wk
  cases g0.symm.trans g1
  have ne := ids_ne h0 g0 hn
  have g7 : k'.isInterface = false := by simp only [Bool.or_eq_false_iff] at g6; exact g6.1
  refine ⟨c, t, h0, g0, ?_⟩
  show Z.vm.assignableAux (255 + 1) c t = false
  simp [Vm.assignableAux, ne, h2, g2, h5, g5, g7, Vm.isSubclass, n3]
end OwnRef
section OwnMore
variable {p : Program} {l : Launch} {e : Env} {R : Room} {s : State} {m : MethodId} {args : Array Value} {below : List Frame} {meth : Method} {c : Code} {T : State} {locs : List Loc} {cells slots : Nat} {Z : State} {a0 : Array Value} {h h' : Heap}
variable {own nm : String} {bytes : ByteArray} {maxL : Nat} {ret : Option FieldType} {D : State → Outcome → Prop} {pc pc' pcT : Nat} {Ls Ls' : Array Slot} {r : List Value} {a b : Addr} {K K2 : String} {index n n2 kk : Nat} {v : Value} {t : FieldType} {f f2 : Nat → Value}
/-- roads that meet with unlike heaps: what holds of each -/
theorem ow_joinH {n0 CC SS : Nat} {P : Heap → Prop} {f f' : JFrame} (X : Stand p l e R s m args below meth c T locs cells slots) (A : ∀ D : State → Outcome → Prop, (∀ T' locs', Stand p l e R s m args below meth c T' locs' CC SS → Fr n0 locs' → P T'.heap → OwF p e below D T' f') → OwF p e below D T f)
    (k : ∀ T' locs', Stand p l e R s m args below meth c T' locs' CC SS → Fr n0 locs' → P T'.heap → OwF p e below D T' f') : OwF p e below D T f := A D k
/-- a private method by its contract -/
theorem ow_callR {y : MethodName} {by' : ByteArray} {mx : Nat} {rt : Option FieldType} {rm : Room} {Q : Option Value → Heap → List Loc → Prop} {stk argsL rest : List Value} {ps : List FieldType} {pr : Option FieldType}
    (C : OwC p Z s m meth c own nm bytes maxL ret) (X : Stand p l e R s m args below meth c T locs cells slots) (eT : T.heap = h)
    (w1 : (Jvm.Cond.methodLink own index y).before a0 Z = true) (w2 : (Jvm.Cond.instanceMethod y).before a0 Z = true) (wp : (Jvm.Cond.privateMethod y).before a0 Z = true) (wi : (Jvm.Cond.instantiable y.cls kk).before a0 Z = true) (w3 : (Jvm.Cond.initialized y.cls).before a0 Z = true) (w4 : (Jvm.Cond.code y by' mx rt).before a0 Z = true)
    (hy : y.cls ≠ "java/lang/invoke/MethodHandle" ∧ y.cls ≠ "java/lang/invoke/VarHandle") (E : Exa Z h a K)
    (M : OwCon l y by' mx rt rm Z (.ref a :: argsL).toArray h Q) (hds : parseMethodDescriptor y.desc = some ⟨ps, pr⟩) (hln : argsL.length = ps.length) (hst : stk = argsL.reverse ++ .ref a :: rest) (hsz : Ls.size = maxL)
    (hd : decode bytes pc = .ok (.invokevirtual index, 3)) (hfr : rm.frames + 1 ≤ R.frames) (hlo : owCat rest + (mx + 11) + rm.locals ≤ R.locals) (hcl : cells + rm.cells ≤ R.cells) (hsl : slots + rm.slots ≤ R.slots) (hp : pc + 3 = pc')
    (k : ∀ T' v L, Stand p l e R s m args below meth c T' (locs ++ L) (cells + rm.cells) (slots + rm.slots) → Q v T'.heap L → OwF p e below D T' (mkF m pc' Ls (v.toList ++ rest))) : OwF p e below D T (mkF m pc Ls stk) := by
  subst hp; subst hst
  have hZ := C.2.2.2.2.2.2.2
  obtain ⟨cc, q1, q2⟩ := E.cell
  obtain ⟨ci, ki, i1, i2, -, i4, -⟩ := Cond.instantiable_spec (mvT (args := args) hZ wi)
  have hpa : s.PrivateAt y := Cond.privateMethod_at (mvP hZ wp (args := #[]))
  obtain ⟨v, _, ⟨T', L', k', n'⟩, -, X', ⟨Lc, hQ, l', y', z'⟩, st⟩ := X.privateBack C.1 (y := y) C.2.2.2.1 (mvT hZ w1) (mvT hZ w2) (selects_self_of_private i1 i2 (Bool.or_eq_false_iff.mp i4).1 hpa (mvT hZ w2) hy) hpa (mvT hZ w4) hy (backOf (W := owCat rest) (M []) hZ w4 w3 hfr hlo) (g := mkF m pc Ls (argsL.reverse ++ .ref a :: rest)) rfl (by rw [C.2.2.1]; exact hsz) (Steps.refl _) (a := a) (by rw [eT]; exact q1) q2 (argsL := argsL) (rest := rest) (lenOf hds hln) rfl (by show 2 * 0 + owCat rest ≤ owCat rest; omega) (hb C.2.1 hd) (fun _ _ => ⟨rfl, eT, hcl, hsl⟩)
  dsimp only [Pt.U, Pt.locs, Pt.cells, Pt.slots] at X' l' y' z' st hQ
  subst l' y' z'
  exact OwF.st (fun _ q => st.trans q) (k T' v Lc X' hQ)
/-- a pure private method that returns a value -/
theorem ow_callRP {y : MethodName} {by' : ByteArray} {mx : Nat} {rt : Option FieldType} {rm : Room} {v : Value} {stk argsL rest : List Value} {ps : List FieldType} {pr : Option FieldType}
    (C : OwC p Z s m meth c own nm bytes maxL ret) (X : Stand p l e R s m args below meth c T locs cells slots) (eT : T.heap = h)
    (w1 : (Jvm.Cond.methodLink own index y).before a0 Z = true) (w2 : (Jvm.Cond.instanceMethod y).before a0 Z = true) (wp : (Jvm.Cond.privateMethod y).before a0 Z = true) (wi : (Jvm.Cond.instantiable y.cls kk).before a0 Z = true) (w3 : (Jvm.Cond.initialized y.cls).before a0 Z = true) (w4 : (Jvm.Cond.code y by' mx rt).before a0 Z = true)
    (hy : y.cls ≠ "java/lang/invoke/MethodHandle" ∧ y.cls ≠ "java/lang/invoke/VarHandle") (E : Exa Z h a K)
    (M : OwCon l y by' mx rt rm Z (.ref a :: argsL).toArray h (OwP (some v) h)) (hrm : rm.cells = 0 ∧ rm.slots = 0) (hds : parseMethodDescriptor y.desc = some ⟨ps, pr⟩) (hln : argsL.length = ps.length) (hst : stk = argsL.reverse ++ .ref a :: rest) (hsz : Ls.size = maxL)
    (hd : decode bytes pc = .ok (.invokevirtual index, 3)) (hfr : rm.frames + 1 ≤ R.frames) (hlo : owCat rest + (mx + 11) + rm.locals ≤ R.locals) (hcl : cells ≤ R.cells) (hsl : slots ≤ R.slots) (hp : pc + 3 = pc')
    (k : ∀ T', Stand p l e R s m args below meth c T' locs cells slots → T'.heap = h → OwF p e below D T' (mkF m pc' Ls (v :: rest))) : OwF p e below D T (mkF m pc Ls stk) := by
  refine ow_callR C X eT w1 w2 wp wi w3 w4 hy E M hds hln hst hsz hd hfr hlo (by rw [hrm.1]; exact hcl) (by rw [hrm.2]; exact hsl) hp fun T' v' L' X' hQ => ?_
  obtain ⟨rfl, rfl, hh⟩ := hQ
  rw [hrm.1, hrm.2, List.append_nil] at X'
  exact k T' X' hh
/-- a pure private method that returns nothing -/
theorem ow_callRN {y : MethodName} {by' : ByteArray} {mx : Nat} {rt : Option FieldType} {rm : Room} {stk argsL rest : List Value} {ps : List FieldType} {pr : Option FieldType}
    (C : OwC p Z s m meth c own nm bytes maxL ret) (X : Stand p l e R s m args below meth c T locs cells slots) (eT : T.heap = h)
    (w1 : (Jvm.Cond.methodLink own index y).before a0 Z = true) (w2 : (Jvm.Cond.instanceMethod y).before a0 Z = true) (wp : (Jvm.Cond.privateMethod y).before a0 Z = true) (wi : (Jvm.Cond.instantiable y.cls kk).before a0 Z = true) (w3 : (Jvm.Cond.initialized y.cls).before a0 Z = true) (w4 : (Jvm.Cond.code y by' mx rt).before a0 Z = true)
    (hy : y.cls ≠ "java/lang/invoke/MethodHandle" ∧ y.cls ≠ "java/lang/invoke/VarHandle") (E : Exa Z h a K)
    (M : OwCon l y by' mx rt rm Z (.ref a :: argsL).toArray h (OwP none h)) (hrm : rm.cells = 0 ∧ rm.slots = 0) (hds : parseMethodDescriptor y.desc = some ⟨ps, pr⟩) (hln : argsL.length = ps.length) (hst : stk = argsL.reverse ++ .ref a :: rest) (hsz : Ls.size = maxL)
    (hd : decode bytes pc = .ok (.invokevirtual index, 3)) (hfr : rm.frames + 1 ≤ R.frames) (hlo : owCat rest + (mx + 11) + rm.locals ≤ R.locals) (hcl : cells ≤ R.cells) (hsl : slots ≤ R.slots) (hp : pc + 3 = pc')
    (k : ∀ T', Stand p l e R s m args below meth c T' locs cells slots → T'.heap = h → OwF p e below D T' (mkF m pc' Ls rest)) : OwF p e below D T (mkF m pc Ls stk) := by
  refine ow_callR C X eT w1 w2 wp wi w3 w4 hy E M hds hln hst hsz hd hfr hlo (by rw [hrm.1]; exact hcl) (by rw [hrm.2]; exact hsl) hp fun T' v' L' X' hQ => ?_
  obtain ⟨rfl, rfl, hh⟩ := hQ
  rw [hrm.1, hrm.2, List.append_nil] at X'
  exact k T' X' hh
/-- the array at a is of a class whose places take a C, itself an array class over ty -/
def OwOv (Z : State) (h : Heap) (a : Addr) (ty : FieldType) (C : String) : Prop := ∃ c : Cell, h[a]? = some c ∧ OvrA Z c.cls ty C
theorem OwOv.ext {C : String} (O : OwOv Z h a t C) (E : Ext h h') : OwOv Z h' a t C := by obtain ⟨c, q, o⟩ := O; exact ⟨c, E.2 _ _ q, o⟩
theorem OwOv.wr {C : String} {sl : Nat} (O : OwOv Z h a t C) (W : Wr h h' b sl v) : OwOv Z h' a t C := by
  obtain ⟨c, q, o⟩ := O
  obtain ⟨c', e1, e2, -⟩ := wr_at W q
  exact ⟨c', e1, by rw [e2]; exact o⟩
theorem OwOv.keep {C : String} {ws : List Addr} (O : OwOv Z h a t C) (K : Keep h h' ws) : OwOv Z h' a t C := by
  obtain ⟨c, q, o⟩ := O
  obtain ⟨c', e1, e2, -⟩ := K.2.2 _ _ q
  exact ⟨c', e1, by rw [e2]; exact o⟩
theorem OwOv.sto {C : String} {ty : FieldType} (O : OwOv Z h a ty C) (A : OwA Z h a t n f) (I : Ins Z h b C true) : Sto Z h a (.ref b) := by
  obtain ⟨c, q, o⟩ := O
  obtain ⟨c', A', -⟩ := A
  cases q.symm.trans A'.1
  exact Sto.ofVA A' rfl o I
/-- a new array of arrays -/
theorem ow_anewA {K ad : String} {ty : FieldType} {z : Int32} {N cap : Nat} (C : OwC p Z s m meth c own nm bytes maxL ret) (X : Stand p l e R s m args below meth c T locs cells slots) (eT : T.heap = h) (hC : (FieldType.array ty).toString = K) (had : "[" ++ K = ad) (w : (Jvm.Cond.classLink own index K).before a0 Z = true) (w2 : (Jvm.Cond.arrayOver (.array ty)).before a0 Z = true) (hd : decode bytes pc = .ok (.anewarray index, 3))
    (hn : ¬ z < 0) (hN : z.toNatClampNeg = N) (hcap : N ≤ cap) (hb8 : cap * 8 ≤ 536870912) (hc : cells + 1 ≤ R.cells) (hl : slots + cap ≤ R.slots) (hp : pc + 3 = pc')
    (k : ∀ T' h' a, a = h.size → Stand p l e R s m args below meth c T' locs (cells + 1) (slots + cap) → T'.heap = h' → Ext h h' → OwA Z h' a (.array ty) N (fun _ => .null) → Exa Z h' a ad → OwOv Z h' a ty K → OwF p e below D T' (mkF m pc' Ls (.ref a :: r))) : OwF p e below D T (mkF m pc Ls (.int z :: r)) := by
  subst hp; subst hN
  obtain ⟨T', h', cA, X', e', E', A', Ex', O', st⟩ := newRA X C.1 C.2.2.2.2.2.2.2 C.2.2.2.1 hC w w2 eT (g := mkF m pc Ls (.int z :: r)) rfl (hb C.2.1 hd) rfl hn hcap hb8 hc hl had
  exact OwF.st st (k T' h' _ rfl X' e' E' (OwA.new A') Ex' ⟨_, A'.1, O'⟩)
/-- a new array of a primitive kind, its class told -/
theorem ow_newarrE {aty : ArrayType} {ad : String} {z : Int32} {N cap : Nat} (C : OwC p Z s m meth c own nm bytes maxL ret) (X : Stand p l e R s m args below meth c T locs cells slots) (eT : T.heap = h) (had : "[" ++ (newarray.typeOf aty).toString = ad) (w : (Jvm.Cond.arrayClass (newarray.typeOf aty)).before a0 Z = true) (hd : decode bytes pc = .ok (.newarray aty, 2))
    (hn : ¬ z < 0) (hN : z.toNatClampNeg = N) (hcap : N ≤ cap) (hb8 : cap * 8 ≤ 536870912) (hc : cells + 1 ≤ R.cells) (hl : slots + cap ≤ R.slots) (hp : pc + 2 = pc')
    (k : ∀ T' h' a, a = h.size → Stand p l e R s m args below meth c T' locs (cells + 1) (slots + cap) → T'.heap = h' → Ext h h' → OwA Z h' a (newarray.typeOf aty) N (fun _ => defaultValue (newarray.typeOf aty)) → Exa Z h' a ad → OwF p e below D T' (mkF m pc' Ls (.ref a :: r))) : OwF p e below D T (mkF m pc Ls (.int z :: r)) := by
  subst hp; subst hN
  obtain ⟨T', h', cA, X', e', E', A', Ex', st⟩ := newPE X C.1 C.2.2.2.2.2.2.2 w eT (g := mkF m pc Ls (.int z :: r)) rfl (hb C.2.1 hd) rfl hn hcap hb8 hc hl had
  exact OwF.st st (k T' h' _ rfl X' e' E' (OwA.new A') Ex')
theorem ow_aastore {z : Int32} {i : Nat} (C : OwC p Z s m meth c own nm bytes maxL ret) (X : Stand p l e R s m args below meth c T locs cells slots) (eT : T.heap = h) (A : OwA Z h a t n f) (hty : t.isReference = true) (S : Sto Z h a v) (h0 : ¬ z < 0) (hj : z.toNatClampNeg = i) (hlt : i < n) (hd : decode bytes pc = .ok (.aastore, 1)) (hp : pc + 1 = pc')
    (k : ∀ T' h', Stand p l e R s m args below meth c T' (locs ++ [⟨a, i⟩]) cells slots → T'.heap = h' → Wr h h' a i v → OwF p e below D T' (mkF m pc' Ls r)) : OwF p e below D T (mkF m pc Ls (v :: .int z :: .ref a :: r)) := by
  subst hp; subst hj
  obtain ⟨cl, A, S', H⟩ := A
  obtain ⟨T', h', X', e', W', st⟩ := stR X C.1 C.2.2.2.2.2.2.2 eT A (j := z) (v := v) (fun w => w.elim h0 (fun w => by omega)) hty S (g := mkF m pc Ls (v :: .int z :: .ref a :: r)) rfl rfl (hb C.2.1 hd)
  exact OwF.st st (k T' h' X' e' W')
theorem own_getD {n k : Nat} {f : Nat → Value} {d : Value} (h : k < n) : ((List.range n).map f).getD k d = f k := by
  rw [List.getD_eq_getElem?_getD, List.getElem?_map, List.getElem?_range h]; rfl
theorem OwA.arv {z : Int32} (A : OwA Z h a t n f) (hz : z.toNatClampNeg = n) (h0 : ¬ z < 0) (hf : ∀ j, j < n → fits t (f j) = true) (d : Value) : ∃ k, Arv Z h a k t z ((List.range n).map f) d := by
  obtain ⟨c, A, S, H⟩ := A
  exact ⟨c.cls, c, A, rfl, by rw [S, hz], h0, fun k hk => by rw [own_getD (by omega)]; exact H k (by omega), fun k hk => by rw [own_getD (by omega)]; exact hf k (by omega)⟩
/-- System.arraycopy of a primitive kind -/
theorem ow_acopy {zs zd sp dp nn : Int32} {si di ni n0 : Nat} (C : OwC p Z s m meth c own nm bytes maxL ret) (X : Stand p l e R s m args below meth c T locs cells slots) (eT : T.heap = h)
    (w1 : (Jvm.Cond.methodLink own index Jvm.Stand.acN).before a0 Z = true) (w2 : (Jvm.Cond.native Jvm.Stand.acN).before a0 Z = true) (w3 : (Jvm.Cond.static Jvm.Stand.acN).before a0 Z = true) (w4 : (Jvm.Cond.initialized "java/lang/System").before a0 Z = true)
    (A : OwA Z h a t n f) (B : OwA Z h b t n2 f2) (hty : refKind t = false) (hfa : ∀ j, j < n → fits t (f j) = true) (hfb : ∀ j, j < n2 → fits t (f2 j) = true) (hzs : zs.toNatClampNeg = n ∧ ¬ zs < 0) (hzd : zd.toNatClampNeg = n2 ∧ ¬ zd < 0)
    (hs0 : ¬ sp < 0) (hs : sp.toNatClampNeg = si) (hd0 : ¬ dp < 0) (hdd : dp.toNatClampNeg = di) (hn0 : ¬ nn < 0) (hnn : nn.toNatClampNeg = ni) (hb1 : si + ni ≤ n) (hb2 : di + ni ≤ n2) (N : Fr n0 locs) (ge : n0 ≤ b) (hsz : Ls.size = maxL) (hd : decode bytes pc = .ok (.invokestatic index, 3))
    (hfr : 1 ≤ R.frames) (hlo : owCat r + (nativeFrameWords "java/lang/System" "arraycopy" 5 + 11) ≤ R.locals) (hp : pc + 3 = pc')
    (k : ∀ T' h' L, Stand p l e R s m args below meth c T' L cells slots → T'.heap = h' → Fr n0 L → Keep h h' [b] → OwA Z h' b t n2 (fun j => if di ≤ j ∧ j < di + ni then f (si + (j - di)) else f2 j) → OwF p e below D T' (mkF m pc' Ls r)) : OwF p e below D T (mkF m pc Ls (.int nn :: .int dp :: .ref b :: .int sp :: .ref a :: r)) := by
  subst hp; subst hs; subst hdd; subst hnn
  obtain ⟨ka, VA⟩ := A.arv hzs.1 hzs.2 hfa .null
  obtain ⟨kb, VB⟩ := B.arv hzd.1 hzd.2 hfb .null
  obtain ⟨T', h', L', X', e', N', K', V', st⟩ := cpA X C.1 C.2.2.2.2.2.2.2 C.2.2.2.1 w1 w2 w3 w4 eT VA VB (Or.inl ⟨rfl, hty⟩) hs0 hd0 hn0 (by rw [hzs.1]; exact hb1) (by rw [hzd.1]; exact hb2) rfl (by rw [List.length_map, List.length_range]; exact hb2) N ge (g := mkF m pc Ls (.int nn :: .int dp :: .ref b :: .int sp :: .ref a :: r)) rfl (by rw [C.2.2.1]; exact hsz) rfl (hb C.2.1 hd) hfr (W := owCat r) (by show 2 * 0 + owCat r ≤ owCat r; omega) hlo
  refine OwF.st st (k T' h' L' X' e' N' K' ?_)
  obtain ⟨c', A', -, S', -, H', -⟩ := V'
  refine ⟨c', A', by rw [S']; exact hzd.1, fun j hj => ?_⟩
  rw [H' j (by rw [S', hzd.1]; exact hj)]
  congr 1
  dsimp only
  rw [List.getD_eq_getElem?_getD]
  by_cases q1 : j < dp.toNatClampNeg
  · rw [if_neg (by omega), List.append_assoc, List.getElem?_append_left (by rw [List.length_take, List.length_map, List.length_range]; omega), List.getElem?_take_of_lt q1, ← List.getD_eq_getElem?_getD, own_getD hj]
  · have hlt : ((List.take dp.toNatClampNeg ((List.range n2).map f2))).length = dp.toNatClampNeg := by rw [List.length_take, List.length_map, List.length_range]; omega
    rw [List.append_assoc, List.getElem?_append_right (by omega), hlt]
    by_cases q2 : j < dp.toNatClampNeg + nn.toNatClampNeg
    · rw [if_pos ⟨by omega, q2⟩, List.getElem?_append_left (by rw [List.length_map, List.length_range]; omega), ← List.getD_eq_getElem?_getD, own_getD (by omega), own_getD (by omega)]
    · rw [if_neg (by omega), List.getElem?_append_right (by rw [List.length_map, List.length_range]; omega), List.length_map, List.length_range, List.getElem?_drop, ← List.getD_eq_getElem?_getD, show dp.toNatClampNeg + nn.toNatClampNeg + (j - dp.toNatClampNeg - nn.toNatClampNeg) = j from by omega, own_getD hj]
end OwnMore
theorem own_nm {a b : Addr} (h : a ≠ b) : a ∉ [b] := fun q => h (List.mem_singleton.mp q)
theorem own_nm1 {a b : Addr} (h : a ≠ b) : a ∉ [b] := fun q => h (List.mem_singleton.mp q)
theorem own_nm2 {a b c : Addr} (h : a ≠ b) (h2 : a ≠ c) : a ∉ [b, c] := fun q => by simp only [List.mem_cons, List.not_mem_nil, or_false] at q; exact q.elim h h2
theorem own_kt {n : Nat} {a : Addr} {ws : List Addr} (h : n ≤ a) : ∀ x ∈ [a], x ∈ ws ∨ n ≤ x := fun x q => by cases List.mem_singleton.mp q; exact Or.inr h
theorem own_nil {a : Addr} : a ∉ ([] : List Addr) := fun q => nomatch q
theorem own_all0 {n : Nat} : ∀ x ∈ ([] : List Addr), n ≤ x := fun x q => nomatch q
theorem own_all1 {n : Nat} {a : Addr} (h : n ≤ a) : ∀ x ∈ [a], n ≤ x := fun x q => by cases List.mem_singleton.mp q; exact h
/-! booleans' arrays, arrays of objects, a copy of nothing, fields not written yet -/
section OwnTags
variable {p : Program} {l : Launch} {e : Env} {R : Room} {s : State} {m : MethodId} {args : Array Value} {below : List Frame} {meth : Method} {c : Code} {T : State} {locs : List Loc} {cells slots : Nat} {Z : State} {a0 : Array Value} {h h' : Heap}
variable {own nm : String} {bytes : ByteArray} {maxL : Nat} {ret : Option FieldType} {D : State → Outcome → Prop} {pc pc' pcT : Nat} {Ls Ls' : Array Slot} {r : List Value} {a b : Addr} {K K2 : String} {index n n2 kk : Nat} {v : Value} {t t2 : FieldType} {f f2 : Nat → Value}
theorem ow_baloadZ {z : Int32} {i : Nat} (C : OwC p Z s m meth c own nm bytes maxL ret) (X : Stand p l e R s m args below meth c T locs cells slots) (eT : T.heap = h) (A : OwA Z h a .boolean n f) (h0 : ¬ z < 0) (hj : z.toNatClampNeg = i) (hlt : i < n) (hv : f i = v) (hd : decode bytes pc = .ok (.baload, 1)) (hp : pc + 1 = pc')
    (k : OwF p e below D T (mkF m pc' Ls (v :: r))) : OwF p e below D T (mkF m pc Ls (.int z :: .ref a :: r)) := by
  subst hp; subst hj; subst hv
  obtain ⟨cl, A, S, H⟩ := A
  exact OwF.st (fun t q => X.baloadBooleans C.1 (by rw [eT]; exact A.1) (State.isArrayOf_alike C.2.2.2.2.2.2.2.alike A.2.1) A.2.2 (fun w => w.elim h0 (fun w => by omega)) (H _ hlt) (g := mkF m pc Ls (.int z :: .ref a :: r)) rfl rfl (hb C.2.1 hd) t q) k
theorem ow_bastoreZ {z : Int32} {x : Int32} {i : Nat} (C : OwC p Z s m meth c own nm bytes maxL ret) (X : Stand p l e R s m args below meth c T locs cells slots) (eT : T.heap = h) (A : OwA Z h a .boolean n f) (h0 : ¬ z < 0) (hj : z.toNatClampNeg = i) (hlt : i < n) (hd : decode bytes pc = .ok (.bastore, 1)) (hp : pc + 1 = pc')
    (k : ∀ T' h', Stand p l e R s m args below meth c T' (locs ++ [⟨a, i⟩]) cells slots → T'.heap = h' → Wr h h' a i (.int (nar .boolean x)) → OwF p e below D T' (mkF m pc' Ls r)) : OwF p e below D T (mkF m pc Ls (.int x :: .int z :: .ref a :: r)) := by
  subst hp; subst hj
  obtain ⟨cl, A, S, H⟩ := A
  obtain ⟨T', h', X', e', W', st⟩ := stZ X C.1 C.2.2.2.2.2.2.2 eT A (j := z) (x := x) (fun w => w.elim h0 (fun w => by omega)) (g := mkF m pc Ls (.int x :: .int z :: .ref a :: r)) rfl rfl (hb C.2.1 hd)
  exact OwF.st st (k T' h' X' e' W')
/-- a new array of objects -/
theorem ow_anewO {z : Int32} {N cap : Nat} (C : OwC p Z s m meth c own nm bytes maxL ret) (X : Stand p l e R s m args below meth c T locs cells slots) (eT : T.heap = h) (w : (Jvm.Cond.classLink own index K).before a0 Z = true) (w2 : (Jvm.Cond.arrayOver (.object K)).before a0 Z = true) (hd : decode bytes pc = .ok (.anewarray index, 3))
    (hn : ¬ z < 0) (hN : z.toNatClampNeg = N) (hcap : N ≤ cap) (hb8 : cap * 8 ≤ 536870912) (hc : cells + 1 ≤ R.cells) (hl : slots + cap ≤ R.slots) (hp : pc + 3 = pc')
    (k : ∀ T' h' a, a = h.size → Stand p l e R s m args below meth c T' locs (cells + 1) (slots + cap) → T'.heap = h' → Ext h h' → OwA Z h' a (.object K) N (fun _ => .null) → OwF p e below D T' (mkF m pc' Ls (.ref a :: r))) : OwF p e below D T (mkF m pc Ls (.int z :: r)) := by
  subst hp; subst hN
  obtain ⟨T', h', cA, X', e', E', A', O', st⟩ := newR X C.1 C.2.2.2.2.2.2.2 C.2.2.2.1 w w2 eT (g := mkF m pc Ls (.int z :: r)) rfl (hb C.2.1 hd) rfl hn hcap hb8 hc hl
  exact OwF.st st (k T' h' _ rfl X' e' E' (OwA.new A'))
/-- System.arraycopy of nothing -/
theorem ow_acopy0 {zs zd sp dp nn : Int32} {n0 : Nat} (C : OwC p Z s m meth c own nm bytes maxL ret) (X : Stand p l e R s m args below meth c T locs cells slots) (eT : T.heap = h)
    (w1 : (Jvm.Cond.methodLink own index Jvm.Stand.acN).before a0 Z = true) (w2 : (Jvm.Cond.native Jvm.Stand.acN).before a0 Z = true) (w3 : (Jvm.Cond.static Jvm.Stand.acN).before a0 Z = true) (w4 : (Jvm.Cond.initialized "java/lang/System").before a0 Z = true)
    (A : OwA Z h a t n f) (B : OwA Z h b t2 n2 f2) (hty : (t = t2 ∧ refKind t = false) ∨ (refKind t = true ∧ refKind t2 = true)) (hfa : ∀ j, j < n → fits t (f j) = true) (hfb : ∀ j, j < n2 → fits t2 (f2 j) = true) (hzs : zs.toNatClampNeg = n ∧ ¬ zs < 0) (hzd : zd.toNatClampNeg = n2 ∧ ¬ zd < 0)
    (hs0 : ¬ sp < 0) (hs : sp.toNatClampNeg ≤ n) (hd0 : ¬ dp < 0) (hdd : dp.toNatClampNeg ≤ n2) (hn0 : ¬ nn < 0) (hnn : nn.toNatClampNeg = 0) (N : Fr n0 locs) (ge : n0 ≤ b) (hsz : Ls.size = maxL) (hd : decode bytes pc = .ok (.invokestatic index, 3))
    (hfr : 1 ≤ R.frames) (hlo : owCat r + (nativeFrameWords "java/lang/System" "arraycopy" 5 + 11) ≤ R.locals) (hp : pc + 3 = pc')
    (k : ∀ T' h' L, Stand p l e R s m args below meth c T' L cells slots → T'.heap = h' → Fr n0 L → Keep h h' [b] → OwA Z h' b t2 n2 f2 → OwF p e below D T' (mkF m pc' Ls r)) : OwF p e below D T (mkF m pc Ls (.int nn :: .int dp :: .ref b :: .int sp :: .ref a :: r)) := by
  subst hp
  obtain ⟨ka, VA⟩ := A.arv hzs.1 hzs.2 hfa .null
  obtain ⟨kb, VB⟩ := B.arv hzd.1 hzd.2 hfb .null
  obtain ⟨T', h', L', X', e', N', K', V', st⟩ := cpA X C.1 C.2.2.2.2.2.2.2 C.2.2.2.1 w1 w2 w3 w4 eT VA VB (us := []) (hty.imp id fun q => ⟨q.1, q.2, trivial⟩) hs0 hd0 hn0 (by rw [hzs.1, hnn]; exact hs) (by rw [hzd.1, hnn]; exact hdd) (by rw [hnn]; rfl) (by rw [List.length_map, List.length_range, hnn]; exact hdd) N ge (g := mkF m pc Ls (.int nn :: .int dp :: .ref b :: .int sp :: .ref a :: r)) rfl (by rw [C.2.2.1]; exact hsz) rfl (hb C.2.1 hd) hfr (W := owCat r) (by show 2 * 0 + owCat r ≤ owCat r; omega) hlo
  refine OwF.st st (k T' h' L' X' e' N' K' ?_)
  obtain ⟨c', A', -, S', -, H', -⟩ := V'
  refine ⟨c', A', by rw [S']; exact hzd.1, fun j hj => ?_⟩
  rw [H' j (by rw [S', hzd.1]; exact hj), hnn, List.append_nil, Nat.add_zero, List.take_append_drop, own_getD hj]
/-- the fields of a new object that aren't written yet -/
def OwU (Z : State) (a0 : Array Value) (h : Heap) (a : Addr) (K : String) (ns : List String) : Prop := ∀ (O n d : String) (ty : FieldType), Laid Z a0 K O n d → parseFieldDescriptor d = some ty → n ∉ ns → Fld Z h a O n d (defaultValue ty)
theorem OwU.ext {ns : List String} (U : OwU Z a0 h a K ns) (E : Ext h h') : OwU Z a0 h' a K ns := fun O n d ty L q w => (U O n d ty L q w).ext E
theorem OwU.keep {ns : List String} {ws : List Addr} (U : OwU Z a0 h a K ns) (E : Keep h h' ws) (hn : a ∉ ws) : OwU Z a0 h' a K ns := fun O n d ty L q w => (U O n d ty L q w).keep E hn
theorem OwU.put {ns : List String} {O n d : String} {ty : FieldType} (U : OwU Z a0 h a K ns) (W : Wr h h' a (Jvm.RoadKit.slotOf Z O n d) v) (L : Laid Z a0 K O n d) (q : parseFieldDescriptor d = some ty) : OwU Z a0 h' a K (n :: ns) :=
  fun O' n' d' ty' L' q' w => (U O' n' d' ty' L' q' (fun r => w (List.mem_cons_of_mem _ r))).other W (Or.inr (slot_ne L' L (fun e => w (e ▸ List.mem_cons_self ..)) q' q))
theorem own_pc {a b : Nat} {l : List Nat} (h : a < b) (P : (b :: l).Pairwise (· < ·)) : (a :: b :: l).Pairwise (· < ·) := List.Pairwise.cons (fun x hx => (List.mem_cons.mp hx).elim (fun e => e ▸ h) (fun hx => Nat.lt_trans h (List.rel_of_pairwise_cons P hx))) P
theorem own_pinj {l : List Nat} (P : l.Pairwise (· < ·)) {i j : Nat} (hi : i < l.length) (hj : j < l.length) (q : i ≠ j) : l.getD i 0 ≠ l.getD j 0 := by
  rw [List.pairwise_iff_getElem] at P
  rw [List.getD_eq_getElem?_getD, List.getD_eq_getElem?_getD, List.getElem?_eq_getElem hi, List.getElem?_eq_getElem hj]
  rcases Nat.lt_or_gt_of_ne q with w | w
  · exact Nat.ne_of_lt (P i j hi hj w)
  · exact Nat.ne_of_gt (P j i hj hi w)
theorem own_pall {l : List Nat} {Q : Nat → Prop} (P : ∀ x ∈ l, Q x) {j : Nat} (hj : j < l.length) : Q (l.getD j 0) := by
  rw [List.getD_eq_getElem?_getD, List.getElem?_eq_getElem hj]; exact P _ (List.getElem_mem hj)
theorem own_gne {x y N : Nat} (h : x < N) (h2 : N ≤ y) : y ≠ x := Nat.ne_of_gt (Nat.lt_of_lt_of_le h h2)
end OwnTags
section OwnStore
variable {Z : State} {a0 : Array Value} {h h' : Heap} {o q : Addr} {k z : Int32} {ad bd : Nat → Addr}
def OwS (Z : State) (h : Heap) (o : Addr) (k : Int32) (ad : Nat → Addr) : Prop :=
  (Exa Z h o "com/example/narrow_view/narrowview/StartTags") ∧
  (Fld Z h o "com/example/narrow_view/narrowview/StartTags" "count" "I" (.int k)) ∧
  (Fld Z h o "com/example/narrow_view/narrowview/StartTags" "declarations" "I" (.int 0)) ∧
  (Fld Z h o "com/example/narrow_view/narrowview/StartTags" "attributes" "I" (.int 0)) ∧
  (Fld Z h o "com/example/narrow_view/narrowview/StartTags" "valueCount" "I" (.int 0)) ∧
  (Fld Z h o "com/example/narrow_view/narrowview/StartTags" "suppliedTag" "I" (.int (-1))) ∧
  (Fld Z h o "com/example/narrow_view/narrowview/StartTags" "prefixes" "[Ljava/lang/String;" (.ref (ad 0))) ∧
  (Fld Z h o "com/example/narrow_view/narrowview/StartTags" "localNames" "[Ljava/lang/String;" (.ref (ad 1))) ∧
  (Fld Z h o "com/example/narrow_view/narrowview/StartTags" "namespaceUris" "[Ljava/lang/String;" (.ref (ad 2))) ∧
  (Fld Z h o "com/example/narrow_view/narrowview/StartTags" "firstDeclarations" "[I" (.ref (ad 3))) ∧
  (Fld Z h o "com/example/narrow_view/narrowview/StartTags" "firstAttributes" "[I" (.ref (ad 4))) ∧
  (Fld Z h o "com/example/narrow_view/narrowview/StartTags" "takesDefaults" "[Z" (.ref (ad 5))) ∧
  (Fld Z h o "com/example/narrow_view/narrowview/StartTags" "declaredPrefixes" "[Ljava/lang/String;" (.ref (ad 6))) ∧
  (Fld Z h o "com/example/narrow_view/narrowview/StartTags" "declaredUris" "[Ljava/lang/String;" (.ref (ad 7))) ∧
  (Fld Z h o "com/example/narrow_view/narrowview/StartTags" "attributeNamespaces" "[Ljava/lang/String;" (.ref (ad 8))) ∧
  (Fld Z h o "com/example/narrow_view/narrowview/StartTags" "attributeLocalNames" "[Ljava/lang/String;" (.ref (ad 9))) ∧
  (Fld Z h o "com/example/narrow_view/narrowview/StartTags" "attributePrefixes" "[Ljava/lang/String;" (.ref (ad 10))) ∧
  (Fld Z h o "com/example/narrow_view/narrowview/StartTags" "values" "[C" (.ref (ad 11))) ∧
  (OwA Z h (ad 0) (.object "java/lang/String") 16 (fun _ => .null)) ∧
  (OwA Z h (ad 1) (.object "java/lang/String") 16 (fun _ => .null)) ∧
  (OwA Z h (ad 2) (.object "java/lang/String") 16 (fun _ => .null)) ∧
  (OwA Z h (ad 3) .int 16 (fun _ => .int 0)) ∧
  (OwA Z h (ad 4) .int 16 (fun _ => .int 0)) ∧
  (OwA Z h (ad 5) .boolean 16 (fun _ => .int 0)) ∧
  (OwA Z h (ad 6) (.object "java/lang/String") 16 (fun _ => .null)) ∧
  (OwA Z h (ad 7) (.object "java/lang/String") 16 (fun _ => .null)) ∧
  (OwA Z h (ad 8) (.object "java/lang/String") 16 (fun _ => .null)) ∧
  (OwA Z h (ad 9) (.object "java/lang/String") 16 (fun _ => .null)) ∧
  (OwA Z h (ad 10) (.object "java/lang/String") 16 (fun _ => .null)) ∧
  (OwA Z h (ad 11) .char 256 (fun _ => .int 0))
theorem OwS.E (S : OwS Z h o k ad) : Exa Z h o "com/example/narrow_view/narrowview/StartTags" := S.1
theorem OwS.n0 (S : OwS Z h o k ad) : Fld Z h o "com/example/narrow_view/narrowview/StartTags" "count" "I" (.int k) := S.2.1
theorem OwS.n1 (S : OwS Z h o k ad) : Fld Z h o "com/example/narrow_view/narrowview/StartTags" "declarations" "I" (.int 0) := S.2.2.1
theorem OwS.n2 (S : OwS Z h o k ad) : Fld Z h o "com/example/narrow_view/narrowview/StartTags" "attributes" "I" (.int 0) := S.2.2.2.1
theorem OwS.n3 (S : OwS Z h o k ad) : Fld Z h o "com/example/narrow_view/narrowview/StartTags" "valueCount" "I" (.int 0) := S.2.2.2.2.1
theorem OwS.n4 (S : OwS Z h o k ad) : Fld Z h o "com/example/narrow_view/narrowview/StartTags" "suppliedTag" "I" (.int (-1)) := S.2.2.2.2.2.1
theorem OwS.f0 (S : OwS Z h o k ad) : Fld Z h o "com/example/narrow_view/narrowview/StartTags" "prefixes" "[Ljava/lang/String;" (.ref (ad 0)) := S.2.2.2.2.2.2.1
theorem OwS.f1 (S : OwS Z h o k ad) : Fld Z h o "com/example/narrow_view/narrowview/StartTags" "localNames" "[Ljava/lang/String;" (.ref (ad 1)) := S.2.2.2.2.2.2.2.1
theorem OwS.f2 (S : OwS Z h o k ad) : Fld Z h o "com/example/narrow_view/narrowview/StartTags" "namespaceUris" "[Ljava/lang/String;" (.ref (ad 2)) := S.2.2.2.2.2.2.2.2.1
theorem OwS.f3 (S : OwS Z h o k ad) : Fld Z h o "com/example/narrow_view/narrowview/StartTags" "firstDeclarations" "[I" (.ref (ad 3)) := S.2.2.2.2.2.2.2.2.2.1
theorem OwS.f4 (S : OwS Z h o k ad) : Fld Z h o "com/example/narrow_view/narrowview/StartTags" "firstAttributes" "[I" (.ref (ad 4)) := S.2.2.2.2.2.2.2.2.2.2.1
theorem OwS.f5 (S : OwS Z h o k ad) : Fld Z h o "com/example/narrow_view/narrowview/StartTags" "takesDefaults" "[Z" (.ref (ad 5)) := S.2.2.2.2.2.2.2.2.2.2.2.1
theorem OwS.f6 (S : OwS Z h o k ad) : Fld Z h o "com/example/narrow_view/narrowview/StartTags" "declaredPrefixes" "[Ljava/lang/String;" (.ref (ad 6)) := S.2.2.2.2.2.2.2.2.2.2.2.2.1
theorem OwS.f7 (S : OwS Z h o k ad) : Fld Z h o "com/example/narrow_view/narrowview/StartTags" "declaredUris" "[Ljava/lang/String;" (.ref (ad 7)) := S.2.2.2.2.2.2.2.2.2.2.2.2.2.1
theorem OwS.f8 (S : OwS Z h o k ad) : Fld Z h o "com/example/narrow_view/narrowview/StartTags" "attributeNamespaces" "[Ljava/lang/String;" (.ref (ad 8)) := S.2.2.2.2.2.2.2.2.2.2.2.2.2.2.1
theorem OwS.f9 (S : OwS Z h o k ad) : Fld Z h o "com/example/narrow_view/narrowview/StartTags" "attributeLocalNames" "[Ljava/lang/String;" (.ref (ad 9)) := S.2.2.2.2.2.2.2.2.2.2.2.2.2.2.2.1
theorem OwS.f10 (S : OwS Z h o k ad) : Fld Z h o "com/example/narrow_view/narrowview/StartTags" "attributePrefixes" "[Ljava/lang/String;" (.ref (ad 10)) := S.2.2.2.2.2.2.2.2.2.2.2.2.2.2.2.2.1
theorem OwS.f11 (S : OwS Z h o k ad) : Fld Z h o "com/example/narrow_view/narrowview/StartTags" "values" "[C" (.ref (ad 11)) := S.2.2.2.2.2.2.2.2.2.2.2.2.2.2.2.2.2.1
theorem OwS.w0 (S : OwS Z h o k ad) : OwA Z h (ad 0) (.object "java/lang/String") 16 (fun _ => .null) := S.2.2.2.2.2.2.2.2.2.2.2.2.2.2.2.2.2.2.1
theorem OwS.w1 (S : OwS Z h o k ad) : OwA Z h (ad 1) (.object "java/lang/String") 16 (fun _ => .null) := S.2.2.2.2.2.2.2.2.2.2.2.2.2.2.2.2.2.2.2.1
theorem OwS.w2 (S : OwS Z h o k ad) : OwA Z h (ad 2) (.object "java/lang/String") 16 (fun _ => .null) := S.2.2.2.2.2.2.2.2.2.2.2.2.2.2.2.2.2.2.2.2.1
theorem OwS.w3 (S : OwS Z h o k ad) : OwA Z h (ad 3) .int 16 (fun _ => .int 0) := S.2.2.2.2.2.2.2.2.2.2.2.2.2.2.2.2.2.2.2.2.2.1
theorem OwS.w4 (S : OwS Z h o k ad) : OwA Z h (ad 4) .int 16 (fun _ => .int 0) := S.2.2.2.2.2.2.2.2.2.2.2.2.2.2.2.2.2.2.2.2.2.2.1
theorem OwS.w5 (S : OwS Z h o k ad) : OwA Z h (ad 5) .boolean 16 (fun _ => .int 0) := S.2.2.2.2.2.2.2.2.2.2.2.2.2.2.2.2.2.2.2.2.2.2.2.1
theorem OwS.w6 (S : OwS Z h o k ad) : OwA Z h (ad 6) (.object "java/lang/String") 16 (fun _ => .null) := S.2.2.2.2.2.2.2.2.2.2.2.2.2.2.2.2.2.2.2.2.2.2.2.2.1
theorem OwS.w7 (S : OwS Z h o k ad) : OwA Z h (ad 7) (.object "java/lang/String") 16 (fun _ => .null) := S.2.2.2.2.2.2.2.2.2.2.2.2.2.2.2.2.2.2.2.2.2.2.2.2.2.1
theorem OwS.w8 (S : OwS Z h o k ad) : OwA Z h (ad 8) (.object "java/lang/String") 16 (fun _ => .null) := S.2.2.2.2.2.2.2.2.2.2.2.2.2.2.2.2.2.2.2.2.2.2.2.2.2.2.1
theorem OwS.w9 (S : OwS Z h o k ad) : OwA Z h (ad 9) (.object "java/lang/String") 16 (fun _ => .null) := S.2.2.2.2.2.2.2.2.2.2.2.2.2.2.2.2.2.2.2.2.2.2.2.2.2.2.2.1
theorem OwS.w10 (S : OwS Z h o k ad) : OwA Z h (ad 10) (.object "java/lang/String") 16 (fun _ => .null) := S.2.2.2.2.2.2.2.2.2.2.2.2.2.2.2.2.2.2.2.2.2.2.2.2.2.2.2.2.1
theorem OwS.w11 (S : OwS Z h o k ad) : OwA Z h (ad 11) .char 256 (fun _ => .int 0) := S.2.2.2.2.2.2.2.2.2.2.2.2.2.2.2.2.2.2.2.2.2.2.2.2.2.2.2.2.2
theorem OwS.keep {ws : List Addr} (S : OwS Z h o k ad) (K : Keep h h' ws) (ho : o ∉ ws) (ha : ∀ j, j < 12 → ad j ∉ ws) : OwS Z h' o k ad :=
  ⟨S.E.keep K, S.n0.keep K ho, S.n1.keep K ho, S.n2.keep K ho, S.n3.keep K ho, S.n4.keep K ho, S.f0.keep K ho, S.f1.keep K ho, S.f2.keep K ho, S.f3.keep K ho, S.f4.keep K ho, S.f5.keep K ho, S.f6.keep K ho, S.f7.keep K ho, S.f8.keep K ho, S.f9.keep K ho, S.f10.keep K ho, S.f11.keep K ho, S.w0.keep K (ha 0 (by decide)), S.w1.keep K (ha 1 (by decide)), S.w2.keep K (ha 2 (by decide)), S.w3.keep K (ha 3 (by decide)), S.w4.keep K (ha 4 (by decide)), S.w5.keep K (ha 5 (by decide)), S.w6.keep K (ha 6 (by decide)), S.w7.keep K (ha 7 (by decide)), S.w8.keep K (ha 8 (by decide)), S.w9.keep K (ha 9 (by decide)), S.w10.keep K (ha 10 (by decide)), S.w11.keep K (ha 11 (by decide))⟩
theorem OwS.ext (S : OwS Z h o k ad) (K : Ext h h') : OwS Z h' o k ad :=
  ⟨S.E.ext K, S.n0.ext K, S.n1.ext K, S.n2.ext K, S.n3.ext K, S.n4.ext K, S.f0.ext K, S.f1.ext K, S.f2.ext K, S.f3.ext K, S.f4.ext K, S.f5.ext K, S.f6.ext K, S.f7.ext K, S.f8.ext K, S.f9.ext K, S.f10.ext K, S.f11.ext K, S.w0.ext K, S.w1.ext K, S.w2.ext K, S.w3.ext K, S.w4.ext K, S.w5.ext K, S.w6.ext K, S.w7.ext K, S.w8.ext K, S.w9.ext K, S.w10.ext K, S.w11.ext K⟩
theorem OwS.set0 (wi : (Jvm.Cond.instantiable "com/example/narrow_view/narrowview/StartTags" 26).before a0 Z = true) (S : OwS Z h o k ad) (I : ∀ i j, i < 12 → j < 12 → i ≠ j → ad i ≠ ad j) (K : Keep h h' [ad 0]) (A : OwA Z h' (ad 0) (.object "java/lang/String") 16 (fun _ => .null)) : OwS Z h' o k ad :=
  have ho := own_nm (S.w0.ne S.E wi)
  ⟨S.E.keep K, S.n0.keep K ho, S.n1.keep K ho, S.n2.keep K ho, S.n3.keep K ho, S.n4.keep K ho, S.f0.keep K ho, S.f1.keep K ho, S.f2.keep K ho, S.f3.keep K ho, S.f4.keep K ho, S.f5.keep K ho, S.f6.keep K ho, S.f7.keep K ho, S.f8.keep K ho, S.f9.keep K ho, S.f10.keep K ho, S.f11.keep K ho, A, S.w1.keep K (own_nm (I 1 0 (by decide) (by decide) (by decide))), S.w2.keep K (own_nm (I 2 0 (by decide) (by decide) (by decide))), S.w3.keep K (own_nm (I 3 0 (by decide) (by decide) (by decide))), S.w4.keep K (own_nm (I 4 0 (by decide) (by decide) (by decide))), S.w5.keep K (own_nm (I 5 0 (by decide) (by decide) (by decide))), S.w6.keep K (own_nm (I 6 0 (by decide) (by decide) (by decide))), S.w7.keep K (own_nm (I 7 0 (by decide) (by decide) (by decide))), S.w8.keep K (own_nm (I 8 0 (by decide) (by decide) (by decide))), S.w9.keep K (own_nm (I 9 0 (by decide) (by decide) (by decide))), S.w10.keep K (own_nm (I 10 0 (by decide) (by decide) (by decide))), S.w11.keep K (own_nm (I 11 0 (by decide) (by decide) (by decide)))⟩
theorem OwS.set1 (wi : (Jvm.Cond.instantiable "com/example/narrow_view/narrowview/StartTags" 26).before a0 Z = true) (S : OwS Z h o k ad) (I : ∀ i j, i < 12 → j < 12 → i ≠ j → ad i ≠ ad j) (K : Keep h h' [ad 1]) (A : OwA Z h' (ad 1) (.object "java/lang/String") 16 (fun _ => .null)) : OwS Z h' o k ad :=
  have ho := own_nm (S.w1.ne S.E wi)
  ⟨S.E.keep K, S.n0.keep K ho, S.n1.keep K ho, S.n2.keep K ho, S.n3.keep K ho, S.n4.keep K ho, S.f0.keep K ho, S.f1.keep K ho, S.f2.keep K ho, S.f3.keep K ho, S.f4.keep K ho, S.f5.keep K ho, S.f6.keep K ho, S.f7.keep K ho, S.f8.keep K ho, S.f9.keep K ho, S.f10.keep K ho, S.f11.keep K ho, S.w0.keep K (own_nm (I 0 1 (by decide) (by decide) (by decide))), A, S.w2.keep K (own_nm (I 2 1 (by decide) (by decide) (by decide))), S.w3.keep K (own_nm (I 3 1 (by decide) (by decide) (by decide))), S.w4.keep K (own_nm (I 4 1 (by decide) (by decide) (by decide))), S.w5.keep K (own_nm (I 5 1 (by decide) (by decide) (by decide))), S.w6.keep K (own_nm (I 6 1 (by decide) (by decide) (by decide))), S.w7.keep K (own_nm (I 7 1 (by decide) (by decide) (by decide))), S.w8.keep K (own_nm (I 8 1 (by decide) (by decide) (by decide))), S.w9.keep K (own_nm (I 9 1 (by decide) (by decide) (by decide))), S.w10.keep K (own_nm (I 10 1 (by decide) (by decide) (by decide))), S.w11.keep K (own_nm (I 11 1 (by decide) (by decide) (by decide)))⟩
theorem OwS.set2 (wi : (Jvm.Cond.instantiable "com/example/narrow_view/narrowview/StartTags" 26).before a0 Z = true) (S : OwS Z h o k ad) (I : ∀ i j, i < 12 → j < 12 → i ≠ j → ad i ≠ ad j) (K : Keep h h' [ad 2]) (A : OwA Z h' (ad 2) (.object "java/lang/String") 16 (fun _ => .null)) : OwS Z h' o k ad :=
  have ho := own_nm (S.w2.ne S.E wi)
  ⟨S.E.keep K, S.n0.keep K ho, S.n1.keep K ho, S.n2.keep K ho, S.n3.keep K ho, S.n4.keep K ho, S.f0.keep K ho, S.f1.keep K ho, S.f2.keep K ho, S.f3.keep K ho, S.f4.keep K ho, S.f5.keep K ho, S.f6.keep K ho, S.f7.keep K ho, S.f8.keep K ho, S.f9.keep K ho, S.f10.keep K ho, S.f11.keep K ho, S.w0.keep K (own_nm (I 0 2 (by decide) (by decide) (by decide))), S.w1.keep K (own_nm (I 1 2 (by decide) (by decide) (by decide))), A, S.w3.keep K (own_nm (I 3 2 (by decide) (by decide) (by decide))), S.w4.keep K (own_nm (I 4 2 (by decide) (by decide) (by decide))), S.w5.keep K (own_nm (I 5 2 (by decide) (by decide) (by decide))), S.w6.keep K (own_nm (I 6 2 (by decide) (by decide) (by decide))), S.w7.keep K (own_nm (I 7 2 (by decide) (by decide) (by decide))), S.w8.keep K (own_nm (I 8 2 (by decide) (by decide) (by decide))), S.w9.keep K (own_nm (I 9 2 (by decide) (by decide) (by decide))), S.w10.keep K (own_nm (I 10 2 (by decide) (by decide) (by decide))), S.w11.keep K (own_nm (I 11 2 (by decide) (by decide) (by decide)))⟩
theorem OwS.set3 (wi : (Jvm.Cond.instantiable "com/example/narrow_view/narrowview/StartTags" 26).before a0 Z = true) (S : OwS Z h o k ad) (I : ∀ i j, i < 12 → j < 12 → i ≠ j → ad i ≠ ad j) (K : Keep h h' [ad 3]) (A : OwA Z h' (ad 3) .int 16 (fun _ => .int 0)) : OwS Z h' o k ad :=
  have ho := own_nm (S.w3.ne S.E wi)
  ⟨S.E.keep K, S.n0.keep K ho, S.n1.keep K ho, S.n2.keep K ho, S.n3.keep K ho, S.n4.keep K ho, S.f0.keep K ho, S.f1.keep K ho, S.f2.keep K ho, S.f3.keep K ho, S.f4.keep K ho, S.f5.keep K ho, S.f6.keep K ho, S.f7.keep K ho, S.f8.keep K ho, S.f9.keep K ho, S.f10.keep K ho, S.f11.keep K ho, S.w0.keep K (own_nm (I 0 3 (by decide) (by decide) (by decide))), S.w1.keep K (own_nm (I 1 3 (by decide) (by decide) (by decide))), S.w2.keep K (own_nm (I 2 3 (by decide) (by decide) (by decide))), A, S.w4.keep K (own_nm (I 4 3 (by decide) (by decide) (by decide))), S.w5.keep K (own_nm (I 5 3 (by decide) (by decide) (by decide))), S.w6.keep K (own_nm (I 6 3 (by decide) (by decide) (by decide))), S.w7.keep K (own_nm (I 7 3 (by decide) (by decide) (by decide))), S.w8.keep K (own_nm (I 8 3 (by decide) (by decide) (by decide))), S.w9.keep K (own_nm (I 9 3 (by decide) (by decide) (by decide))), S.w10.keep K (own_nm (I 10 3 (by decide) (by decide) (by decide))), S.w11.keep K (own_nm (I 11 3 (by decide) (by decide) (by decide)))⟩
theorem OwS.set4 (wi : (Jvm.Cond.instantiable "com/example/narrow_view/narrowview/StartTags" 26).before a0 Z = true) (S : OwS Z h o k ad) (I : ∀ i j, i < 12 → j < 12 → i ≠ j → ad i ≠ ad j) (K : Keep h h' [ad 4]) (A : OwA Z h' (ad 4) .int 16 (fun _ => .int 0)) : OwS Z h' o k ad :=
  have ho := own_nm (S.w4.ne S.E wi)
  ⟨S.E.keep K, S.n0.keep K ho, S.n1.keep K ho, S.n2.keep K ho, S.n3.keep K ho, S.n4.keep K ho, S.f0.keep K ho, S.f1.keep K ho, S.f2.keep K ho, S.f3.keep K ho, S.f4.keep K ho, S.f5.keep K ho, S.f6.keep K ho, S.f7.keep K ho, S.f8.keep K ho, S.f9.keep K ho, S.f10.keep K ho, S.f11.keep K ho, S.w0.keep K (own_nm (I 0 4 (by decide) (by decide) (by decide))), S.w1.keep K (own_nm (I 1 4 (by decide) (by decide) (by decide))), S.w2.keep K (own_nm (I 2 4 (by decide) (by decide) (by decide))), S.w3.keep K (own_nm (I 3 4 (by decide) (by decide) (by decide))), A, S.w5.keep K (own_nm (I 5 4 (by decide) (by decide) (by decide))), S.w6.keep K (own_nm (I 6 4 (by decide) (by decide) (by decide))), S.w7.keep K (own_nm (I 7 4 (by decide) (by decide) (by decide))), S.w8.keep K (own_nm (I 8 4 (by decide) (by decide) (by decide))), S.w9.keep K (own_nm (I 9 4 (by decide) (by decide) (by decide))), S.w10.keep K (own_nm (I 10 4 (by decide) (by decide) (by decide))), S.w11.keep K (own_nm (I 11 4 (by decide) (by decide) (by decide)))⟩
theorem OwS.set5 (wi : (Jvm.Cond.instantiable "com/example/narrow_view/narrowview/StartTags" 26).before a0 Z = true) (S : OwS Z h o k ad) (I : ∀ i j, i < 12 → j < 12 → i ≠ j → ad i ≠ ad j) (K : Keep h h' [ad 5]) (A : OwA Z h' (ad 5) .boolean 16 (fun _ => .int 0)) : OwS Z h' o k ad :=
  have ho := own_nm (S.w5.ne S.E wi)
  ⟨S.E.keep K, S.n0.keep K ho, S.n1.keep K ho, S.n2.keep K ho, S.n3.keep K ho, S.n4.keep K ho, S.f0.keep K ho, S.f1.keep K ho, S.f2.keep K ho, S.f3.keep K ho, S.f4.keep K ho, S.f5.keep K ho, S.f6.keep K ho, S.f7.keep K ho, S.f8.keep K ho, S.f9.keep K ho, S.f10.keep K ho, S.f11.keep K ho, S.w0.keep K (own_nm (I 0 5 (by decide) (by decide) (by decide))), S.w1.keep K (own_nm (I 1 5 (by decide) (by decide) (by decide))), S.w2.keep K (own_nm (I 2 5 (by decide) (by decide) (by decide))), S.w3.keep K (own_nm (I 3 5 (by decide) (by decide) (by decide))), S.w4.keep K (own_nm (I 4 5 (by decide) (by decide) (by decide))), A, S.w6.keep K (own_nm (I 6 5 (by decide) (by decide) (by decide))), S.w7.keep K (own_nm (I 7 5 (by decide) (by decide) (by decide))), S.w8.keep K (own_nm (I 8 5 (by decide) (by decide) (by decide))), S.w9.keep K (own_nm (I 9 5 (by decide) (by decide) (by decide))), S.w10.keep K (own_nm (I 10 5 (by decide) (by decide) (by decide))), S.w11.keep K (own_nm (I 11 5 (by decide) (by decide) (by decide)))⟩
theorem OwS.set6 (wi : (Jvm.Cond.instantiable "com/example/narrow_view/narrowview/StartTags" 26).before a0 Z = true) (S : OwS Z h o k ad) (I : ∀ i j, i < 12 → j < 12 → i ≠ j → ad i ≠ ad j) (K : Keep h h' [ad 6]) (A : OwA Z h' (ad 6) (.object "java/lang/String") 16 (fun _ => .null)) : OwS Z h' o k ad :=
  have ho := own_nm (S.w6.ne S.E wi)
  ⟨S.E.keep K, S.n0.keep K ho, S.n1.keep K ho, S.n2.keep K ho, S.n3.keep K ho, S.n4.keep K ho, S.f0.keep K ho, S.f1.keep K ho, S.f2.keep K ho, S.f3.keep K ho, S.f4.keep K ho, S.f5.keep K ho, S.f6.keep K ho, S.f7.keep K ho, S.f8.keep K ho, S.f9.keep K ho, S.f10.keep K ho, S.f11.keep K ho, S.w0.keep K (own_nm (I 0 6 (by decide) (by decide) (by decide))), S.w1.keep K (own_nm (I 1 6 (by decide) (by decide) (by decide))), S.w2.keep K (own_nm (I 2 6 (by decide) (by decide) (by decide))), S.w3.keep K (own_nm (I 3 6 (by decide) (by decide) (by decide))), S.w4.keep K (own_nm (I 4 6 (by decide) (by decide) (by decide))), S.w5.keep K (own_nm (I 5 6 (by decide) (by decide) (by decide))), A, S.w7.keep K (own_nm (I 7 6 (by decide) (by decide) (by decide))), S.w8.keep K (own_nm (I 8 6 (by decide) (by decide) (by decide))), S.w9.keep K (own_nm (I 9 6 (by decide) (by decide) (by decide))), S.w10.keep K (own_nm (I 10 6 (by decide) (by decide) (by decide))), S.w11.keep K (own_nm (I 11 6 (by decide) (by decide) (by decide)))⟩
theorem OwS.set7 (wi : (Jvm.Cond.instantiable "com/example/narrow_view/narrowview/StartTags" 26).before a0 Z = true) (S : OwS Z h o k ad) (I : ∀ i j, i < 12 → j < 12 → i ≠ j → ad i ≠ ad j) (K : Keep h h' [ad 7]) (A : OwA Z h' (ad 7) (.object "java/lang/String") 16 (fun _ => .null)) : OwS Z h' o k ad :=
  have ho := own_nm (S.w7.ne S.E wi)
  ⟨S.E.keep K, S.n0.keep K ho, S.n1.keep K ho, S.n2.keep K ho, S.n3.keep K ho, S.n4.keep K ho, S.f0.keep K ho, S.f1.keep K ho, S.f2.keep K ho, S.f3.keep K ho, S.f4.keep K ho, S.f5.keep K ho, S.f6.keep K ho, S.f7.keep K ho, S.f8.keep K ho, S.f9.keep K ho, S.f10.keep K ho, S.f11.keep K ho, S.w0.keep K (own_nm (I 0 7 (by decide) (by decide) (by decide))), S.w1.keep K (own_nm (I 1 7 (by decide) (by decide) (by decide))), S.w2.keep K (own_nm (I 2 7 (by decide) (by decide) (by decide))), S.w3.keep K (own_nm (I 3 7 (by decide) (by decide) (by decide))), S.w4.keep K (own_nm (I 4 7 (by decide) (by decide) (by decide))), S.w5.keep K (own_nm (I 5 7 (by decide) (by decide) (by decide))), S.w6.keep K (own_nm (I 6 7 (by decide) (by decide) (by decide))), A, S.w8.keep K (own_nm (I 8 7 (by decide) (by decide) (by decide))), S.w9.keep K (own_nm (I 9 7 (by decide) (by decide) (by decide))), S.w10.keep K (own_nm (I 10 7 (by decide) (by decide) (by decide))), S.w11.keep K (own_nm (I 11 7 (by decide) (by decide) (by decide)))⟩
theorem OwS.set8 (wi : (Jvm.Cond.instantiable "com/example/narrow_view/narrowview/StartTags" 26).before a0 Z = true) (S : OwS Z h o k ad) (I : ∀ i j, i < 12 → j < 12 → i ≠ j → ad i ≠ ad j) (K : Keep h h' [ad 8]) (A : OwA Z h' (ad 8) (.object "java/lang/String") 16 (fun _ => .null)) : OwS Z h' o k ad :=
  have ho := own_nm (S.w8.ne S.E wi)
  ⟨S.E.keep K, S.n0.keep K ho, S.n1.keep K ho, S.n2.keep K ho, S.n3.keep K ho, S.n4.keep K ho, S.f0.keep K ho, S.f1.keep K ho, S.f2.keep K ho, S.f3.keep K ho, S.f4.keep K ho, S.f5.keep K ho, S.f6.keep K ho, S.f7.keep K ho, S.f8.keep K ho, S.f9.keep K ho, S.f10.keep K ho, S.f11.keep K ho, S.w0.keep K (own_nm (I 0 8 (by decide) (by decide) (by decide))), S.w1.keep K (own_nm (I 1 8 (by decide) (by decide) (by decide))), S.w2.keep K (own_nm (I 2 8 (by decide) (by decide) (by decide))), S.w3.keep K (own_nm (I 3 8 (by decide) (by decide) (by decide))), S.w4.keep K (own_nm (I 4 8 (by decide) (by decide) (by decide))), S.w5.keep K (own_nm (I 5 8 (by decide) (by decide) (by decide))), S.w6.keep K (own_nm (I 6 8 (by decide) (by decide) (by decide))), S.w7.keep K (own_nm (I 7 8 (by decide) (by decide) (by decide))), A, S.w9.keep K (own_nm (I 9 8 (by decide) (by decide) (by decide))), S.w10.keep K (own_nm (I 10 8 (by decide) (by decide) (by decide))), S.w11.keep K (own_nm (I 11 8 (by decide) (by decide) (by decide)))⟩
theorem OwS.set9 (wi : (Jvm.Cond.instantiable "com/example/narrow_view/narrowview/StartTags" 26).before a0 Z = true) (S : OwS Z h o k ad) (I : ∀ i j, i < 12 → j < 12 → i ≠ j → ad i ≠ ad j) (K : Keep h h' [ad 9]) (A : OwA Z h' (ad 9) (.object "java/lang/String") 16 (fun _ => .null)) : OwS Z h' o k ad :=
  have ho := own_nm (S.w9.ne S.E wi)
  ⟨S.E.keep K, S.n0.keep K ho, S.n1.keep K ho, S.n2.keep K ho, S.n3.keep K ho, S.n4.keep K ho, S.f0.keep K ho, S.f1.keep K ho, S.f2.keep K ho, S.f3.keep K ho, S.f4.keep K ho, S.f5.keep K ho, S.f6.keep K ho, S.f7.keep K ho, S.f8.keep K ho, S.f9.keep K ho, S.f10.keep K ho, S.f11.keep K ho, S.w0.keep K (own_nm (I 0 9 (by decide) (by decide) (by decide))), S.w1.keep K (own_nm (I 1 9 (by decide) (by decide) (by decide))), S.w2.keep K (own_nm (I 2 9 (by decide) (by decide) (by decide))), S.w3.keep K (own_nm (I 3 9 (by decide) (by decide) (by decide))), S.w4.keep K (own_nm (I 4 9 (by decide) (by decide) (by decide))), S.w5.keep K (own_nm (I 5 9 (by decide) (by decide) (by decide))), S.w6.keep K (own_nm (I 6 9 (by decide) (by decide) (by decide))), S.w7.keep K (own_nm (I 7 9 (by decide) (by decide) (by decide))), S.w8.keep K (own_nm (I 8 9 (by decide) (by decide) (by decide))), A, S.w10.keep K (own_nm (I 10 9 (by decide) (by decide) (by decide))), S.w11.keep K (own_nm (I 11 9 (by decide) (by decide) (by decide)))⟩
theorem OwS.set10 (wi : (Jvm.Cond.instantiable "com/example/narrow_view/narrowview/StartTags" 26).before a0 Z = true) (S : OwS Z h o k ad) (I : ∀ i j, i < 12 → j < 12 → i ≠ j → ad i ≠ ad j) (K : Keep h h' [ad 10]) (A : OwA Z h' (ad 10) (.object "java/lang/String") 16 (fun _ => .null)) : OwS Z h' o k ad :=
  have ho := own_nm (S.w10.ne S.E wi)
  ⟨S.E.keep K, S.n0.keep K ho, S.n1.keep K ho, S.n2.keep K ho, S.n3.keep K ho, S.n4.keep K ho, S.f0.keep K ho, S.f1.keep K ho, S.f2.keep K ho, S.f3.keep K ho, S.f4.keep K ho, S.f5.keep K ho, S.f6.keep K ho, S.f7.keep K ho, S.f8.keep K ho, S.f9.keep K ho, S.f10.keep K ho, S.f11.keep K ho, S.w0.keep K (own_nm (I 0 10 (by decide) (by decide) (by decide))), S.w1.keep K (own_nm (I 1 10 (by decide) (by decide) (by decide))), S.w2.keep K (own_nm (I 2 10 (by decide) (by decide) (by decide))), S.w3.keep K (own_nm (I 3 10 (by decide) (by decide) (by decide))), S.w4.keep K (own_nm (I 4 10 (by decide) (by decide) (by decide))), S.w5.keep K (own_nm (I 5 10 (by decide) (by decide) (by decide))), S.w6.keep K (own_nm (I 6 10 (by decide) (by decide) (by decide))), S.w7.keep K (own_nm (I 7 10 (by decide) (by decide) (by decide))), S.w8.keep K (own_nm (I 8 10 (by decide) (by decide) (by decide))), S.w9.keep K (own_nm (I 9 10 (by decide) (by decide) (by decide))), A, S.w11.keep K (own_nm (I 11 10 (by decide) (by decide) (by decide)))⟩
theorem OwS.set11 (wi : (Jvm.Cond.instantiable "com/example/narrow_view/narrowview/StartTags" 26).before a0 Z = true) (S : OwS Z h o k ad) (I : ∀ i j, i < 12 → j < 12 → i ≠ j → ad i ≠ ad j) (K : Keep h h' [ad 11]) (A : OwA Z h' (ad 11) .char 256 (fun _ => .int 0)) : OwS Z h' o k ad :=
  have ho := own_nm (S.w11.ne S.E wi)
  ⟨S.E.keep K, S.n0.keep K ho, S.n1.keep K ho, S.n2.keep K ho, S.n3.keep K ho, S.n4.keep K ho, S.f0.keep K ho, S.f1.keep K ho, S.f2.keep K ho, S.f3.keep K ho, S.f4.keep K ho, S.f5.keep K ho, S.f6.keep K ho, S.f7.keep K ho, S.f8.keep K ho, S.f9.keep K ho, S.f10.keep K ho, S.f11.keep K ho, S.w0.keep K (own_nm (I 0 11 (by decide) (by decide) (by decide))), S.w1.keep K (own_nm (I 1 11 (by decide) (by decide) (by decide))), S.w2.keep K (own_nm (I 2 11 (by decide) (by decide) (by decide))), S.w3.keep K (own_nm (I 3 11 (by decide) (by decide) (by decide))), S.w4.keep K (own_nm (I 4 11 (by decide) (by decide) (by decide))), S.w5.keep K (own_nm (I 5 11 (by decide) (by decide) (by decide))), S.w6.keep K (own_nm (I 6 11 (by decide) (by decide) (by decide))), S.w7.keep K (own_nm (I 7 11 (by decide) (by decide) (by decide))), S.w8.keep K (own_nm (I 8 11 (by decide) (by decide) (by decide))), S.w9.keep K (own_nm (I 9 11 (by decide) (by decide) (by decide))), S.w10.keep K (own_nm (I 10 11 (by decide) (by decide) (by decide))), A⟩
theorem OwS.put0 (hw : ∀ d ∈ tables_1, d.before a0 Z = true) (S : OwS Z h o k ad) (W : Wr h h' o (Jvm.RoadKit.slotOf Z "com/example/narrow_view/narrowview/StartTags" "count" "I") (.int z)) : OwS Z h' o z ad := by
  exact ⟨S.E.wr W, S.n0.same W, S.n1.other W (Or.inr (slot_ne (Or.inl (hw _ (List.mem_of_getElem? (i := 106) rfl))) (Or.inl (hw _ (List.mem_of_getElem? (i := 90) rfl))) (by decide) (t := .int) (t' := .int) (by decide) (by decide))), S.n2.other W (Or.inr (slot_ne (Or.inl (hw _ (List.mem_of_getElem? (i := 117) rfl))) (Or.inl (hw _ (List.mem_of_getElem? (i := 90) rfl))) (by decide) (t := .int) (t' := .int) (by decide) (by decide))), S.n3.other W (Or.inr (slot_ne (Or.inl (hw _ (List.mem_of_getElem? (i := 123) rfl))) (Or.inl (hw _ (List.mem_of_getElem? (i := 90) rfl))) (by decide) (t := .int) (t' := .int) (by decide) (by decide))), S.n4.other W (Or.inr (slot_ne (Or.inl (hw _ (List.mem_of_getElem? (i := 50) rfl))) (Or.inl (hw _ (List.mem_of_getElem? (i := 90) rfl))) (by decide) (t := .int) (t' := .int) (by decide) (by decide))), S.f0.other W (Or.inr (slot_ne (Or.inl (hw _ (List.mem_of_getElem? (i := 17) rfl))) (Or.inl (hw _ (List.mem_of_getElem? (i := 90) rfl))) (by decide) (t := (.array (.object "java/lang/String"))) (t' := .int) (by decide) (by decide))), S.f1.other W (Or.inr (slot_ne (Or.inl (hw _ (List.mem_of_getElem? (i := 19) rfl))) (Or.inl (hw _ (List.mem_of_getElem? (i := 90) rfl))) (by decide) (t := (.array (.object "java/lang/String"))) (t' := .int) (by decide) (by decide))), S.f2.other W (Or.inr (slot_ne (Or.inl (hw _ (List.mem_of_getElem? (i := 21) rfl))) (Or.inl (hw _ (List.mem_of_getElem? (i := 90) rfl))) (by decide) (t := (.array (.object "java/lang/String"))) (t' := .int) (by decide) (by decide))), S.f3.other W (Or.inr (slot_ne (Or.inl (hw _ (List.mem_of_getElem? (i := 24) rfl))) (Or.inl (hw _ (List.mem_of_getElem? (i := 90) rfl))) (by decide) (t := (.array .int)) (t' := .int) (by decide) (by decide))), S.f4.other W (Or.inr (slot_ne (Or.inl (hw _ (List.mem_of_getElem? (i := 26) rfl))) (Or.inl (hw _ (List.mem_of_getElem? (i := 90) rfl))) (by decide) (t := (.array .int)) (t' := .int) (by decide) (by decide))), S.f5.other W (Or.inr (slot_ne (Or.inl (hw _ (List.mem_of_getElem? (i := 33) rfl))) (Or.inl (hw _ (List.mem_of_getElem? (i := 90) rfl))) (by decide) (t := (.array .boolean)) (t' := .int) (by decide) (by decide))), S.f6.other W (Or.inr (slot_ne (Or.inl (hw _ (List.mem_of_getElem? (i := 35) rfl))) (Or.inl (hw _ (List.mem_of_getElem? (i := 90) rfl))) (by decide) (t := (.array (.object "java/lang/String"))) (t' := .int) (by decide) (by decide))), S.f7.other W (Or.inr (slot_ne (Or.inl (hw _ (List.mem_of_getElem? (i := 37) rfl))) (Or.inl (hw _ (List.mem_of_getElem? (i := 90) rfl))) (by decide) (t := (.array (.object "java/lang/String"))) (t' := .int) (by decide) (by decide))), S.f8.other W (Or.inr (slot_ne (Or.inl (hw _ (List.mem_of_getElem? (i := 39) rfl))) (Or.inl (hw _ (List.mem_of_getElem? (i := 90) rfl))) (by decide) (t := (.array (.object "java/lang/String"))) (t' := .int) (by decide) (by decide))), S.f9.other W (Or.inr (slot_ne (Or.inl (hw _ (List.mem_of_getElem? (i := 41) rfl))) (Or.inl (hw _ (List.mem_of_getElem? (i := 90) rfl))) (by decide) (t := (.array (.object "java/lang/String"))) (t' := .int) (by decide) (by decide))), S.f10.other W (Or.inr (slot_ne (Or.inl (hw _ (List.mem_of_getElem? (i := 43) rfl))) (Or.inl (hw _ (List.mem_of_getElem? (i := 90) rfl))) (by decide) (t := (.array (.object "java/lang/String"))) (t' := .int) (by decide) (by decide))), S.f11.other W (Or.inr (slot_ne (Or.inl (hw _ (List.mem_of_getElem? (i := 48) rfl))) (Or.inl (hw _ (List.mem_of_getElem? (i := 90) rfl))) (by decide) (t := (.array .char)) (t' := .int) (by decide) (by decide))), S.w0.other W (Ne.symm (S.w0.ne S.E (hw _ (List.mem_of_getElem? (i := 6) rfl)))), S.w1.other W (Ne.symm (S.w1.ne S.E (hw _ (List.mem_of_getElem? (i := 6) rfl)))), S.w2.other W (Ne.symm (S.w2.ne S.E (hw _ (List.mem_of_getElem? (i := 6) rfl)))), S.w3.other W (Ne.symm (S.w3.ne S.E (hw _ (List.mem_of_getElem? (i := 6) rfl)))), S.w4.other W (Ne.symm (S.w4.ne S.E (hw _ (List.mem_of_getElem? (i := 6) rfl)))), S.w5.other W (Ne.symm (S.w5.ne S.E (hw _ (List.mem_of_getElem? (i := 6) rfl)))), S.w6.other W (Ne.symm (S.w6.ne S.E (hw _ (List.mem_of_getElem? (i := 6) rfl)))), S.w7.other W (Ne.symm (S.w7.ne S.E (hw _ (List.mem_of_getElem? (i := 6) rfl)))), S.w8.other W (Ne.symm (S.w8.ne S.E (hw _ (List.mem_of_getElem? (i := 6) rfl)))), S.w9.other W (Ne.symm (S.w9.ne S.E (hw _ (List.mem_of_getElem? (i := 6) rfl)))), S.w10.other W (Ne.symm (S.w10.ne S.E (hw _ (List.mem_of_getElem? (i := 6) rfl)))), S.w11.other W (Ne.symm (S.w11.ne S.E (hw _ (List.mem_of_getElem? (i := 6) rfl))))⟩
theorem OwS.put1 (hw : ∀ d ∈ tables_1, d.before a0 Z = true) (S : OwS Z h o k ad) (W : Wr h h' o (Jvm.RoadKit.slotOf Z "com/example/narrow_view/narrowview/StartTags" "declarations" "I") (.int z)) (hz : z = 0) : OwS Z h' o k ad := by
  subst hz
  exact ⟨S.E.wr W, S.n0.other W (Or.inr (slot_ne (Or.inl (hw _ (List.mem_of_getElem? (i := 90) rfl))) (Or.inl (hw _ (List.mem_of_getElem? (i := 106) rfl))) (by decide) (t := .int) (t' := .int) (by decide) (by decide))), S.n1.same W, S.n2.other W (Or.inr (slot_ne (Or.inl (hw _ (List.mem_of_getElem? (i := 117) rfl))) (Or.inl (hw _ (List.mem_of_getElem? (i := 106) rfl))) (by decide) (t := .int) (t' := .int) (by decide) (by decide))), S.n3.other W (Or.inr (slot_ne (Or.inl (hw _ (List.mem_of_getElem? (i := 123) rfl))) (Or.inl (hw _ (List.mem_of_getElem? (i := 106) rfl))) (by decide) (t := .int) (t' := .int) (by decide) (by decide))), S.n4.other W (Or.inr (slot_ne (Or.inl (hw _ (List.mem_of_getElem? (i := 50) rfl))) (Or.inl (hw _ (List.mem_of_getElem? (i := 106) rfl))) (by decide) (t := .int) (t' := .int) (by decide) (by decide))), S.f0.other W (Or.inr (slot_ne (Or.inl (hw _ (List.mem_of_getElem? (i := 17) rfl))) (Or.inl (hw _ (List.mem_of_getElem? (i := 106) rfl))) (by decide) (t := (.array (.object "java/lang/String"))) (t' := .int) (by decide) (by decide))), S.f1.other W (Or.inr (slot_ne (Or.inl (hw _ (List.mem_of_getElem? (i := 19) rfl))) (Or.inl (hw _ (List.mem_of_getElem? (i := 106) rfl))) (by decide) (t := (.array (.object "java/lang/String"))) (t' := .int) (by decide) (by decide))), S.f2.other W (Or.inr (slot_ne (Or.inl (hw _ (List.mem_of_getElem? (i := 21) rfl))) (Or.inl (hw _ (List.mem_of_getElem? (i := 106) rfl))) (by decide) (t := (.array (.object "java/lang/String"))) (t' := .int) (by decide) (by decide))), S.f3.other W (Or.inr (slot_ne (Or.inl (hw _ (List.mem_of_getElem? (i := 24) rfl))) (Or.inl (hw _ (List.mem_of_getElem? (i := 106) rfl))) (by decide) (t := (.array .int)) (t' := .int) (by decide) (by decide))), S.f4.other W (Or.inr (slot_ne (Or.inl (hw _ (List.mem_of_getElem? (i := 26) rfl))) (Or.inl (hw _ (List.mem_of_getElem? (i := 106) rfl))) (by decide) (t := (.array .int)) (t' := .int) (by decide) (by decide))), S.f5.other W (Or.inr (slot_ne (Or.inl (hw _ (List.mem_of_getElem? (i := 33) rfl))) (Or.inl (hw _ (List.mem_of_getElem? (i := 106) rfl))) (by decide) (t := (.array .boolean)) (t' := .int) (by decide) (by decide))), S.f6.other W (Or.inr (slot_ne (Or.inl (hw _ (List.mem_of_getElem? (i := 35) rfl))) (Or.inl (hw _ (List.mem_of_getElem? (i := 106) rfl))) (by decide) (t := (.array (.object "java/lang/String"))) (t' := .int) (by decide) (by decide))), S.f7.other W (Or.inr (slot_ne (Or.inl (hw _ (List.mem_of_getElem? (i := 37) rfl))) (Or.inl (hw _ (List.mem_of_getElem? (i := 106) rfl))) (by decide) (t := (.array (.object "java/lang/String"))) (t' := .int) (by decide) (by decide))), S.f8.other W (Or.inr (slot_ne (Or.inl (hw _ (List.mem_of_getElem? (i := 39) rfl))) (Or.inl (hw _ (List.mem_of_getElem? (i := 106) rfl))) (by decide) (t := (.array (.object "java/lang/String"))) (t' := .int) (by decide) (by decide))), S.f9.other W (Or.inr (slot_ne (Or.inl (hw _ (List.mem_of_getElem? (i := 41) rfl))) (Or.inl (hw _ (List.mem_of_getElem? (i := 106) rfl))) (by decide) (t := (.array (.object "java/lang/String"))) (t' := .int) (by decide) (by decide))), S.f10.other W (Or.inr (slot_ne (Or.inl (hw _ (List.mem_of_getElem? (i := 43) rfl))) (Or.inl (hw _ (List.mem_of_getElem? (i := 106) rfl))) (by decide) (t := (.array (.object "java/lang/String"))) (t' := .int) (by decide) (by decide))), S.f11.other W (Or.inr (slot_ne (Or.inl (hw _ (List.mem_of_getElem? (i := 48) rfl))) (Or.inl (hw _ (List.mem_of_getElem? (i := 106) rfl))) (by decide) (t := (.array .char)) (t' := .int) (by decide) (by decide))), S.w0.other W (Ne.symm (S.w0.ne S.E (hw _ (List.mem_of_getElem? (i := 6) rfl)))), S.w1.other W (Ne.symm (S.w1.ne S.E (hw _ (List.mem_of_getElem? (i := 6) rfl)))), S.w2.other W (Ne.symm (S.w2.ne S.E (hw _ (List.mem_of_getElem? (i := 6) rfl)))), S.w3.other W (Ne.symm (S.w3.ne S.E (hw _ (List.mem_of_getElem? (i := 6) rfl)))), S.w4.other W (Ne.symm (S.w4.ne S.E (hw _ (List.mem_of_getElem? (i := 6) rfl)))), S.w5.other W (Ne.symm (S.w5.ne S.E (hw _ (List.mem_of_getElem? (i := 6) rfl)))), S.w6.other W (Ne.symm (S.w6.ne S.E (hw _ (List.mem_of_getElem? (i := 6) rfl)))), S.w7.other W (Ne.symm (S.w7.ne S.E (hw _ (List.mem_of_getElem? (i := 6) rfl)))), S.w8.other W (Ne.symm (S.w8.ne S.E (hw _ (List.mem_of_getElem? (i := 6) rfl)))), S.w9.other W (Ne.symm (S.w9.ne S.E (hw _ (List.mem_of_getElem? (i := 6) rfl)))), S.w10.other W (Ne.symm (S.w10.ne S.E (hw _ (List.mem_of_getElem? (i := 6) rfl)))), S.w11.other W (Ne.symm (S.w11.ne S.E (hw _ (List.mem_of_getElem? (i := 6) rfl))))⟩
theorem OwS.put2 (hw : ∀ d ∈ tables_1, d.before a0 Z = true) (S : OwS Z h o k ad) (W : Wr h h' o (Jvm.RoadKit.slotOf Z "com/example/narrow_view/narrowview/StartTags" "attributes" "I") (.int z)) (hz : z = 0) : OwS Z h' o k ad := by
  subst hz
  exact ⟨S.E.wr W, S.n0.other W (Or.inr (slot_ne (Or.inl (hw _ (List.mem_of_getElem? (i := 90) rfl))) (Or.inl (hw _ (List.mem_of_getElem? (i := 117) rfl))) (by decide) (t := .int) (t' := .int) (by decide) (by decide))), S.n1.other W (Or.inr (slot_ne (Or.inl (hw _ (List.mem_of_getElem? (i := 106) rfl))) (Or.inl (hw _ (List.mem_of_getElem? (i := 117) rfl))) (by decide) (t := .int) (t' := .int) (by decide) (by decide))), S.n2.same W, S.n3.other W (Or.inr (slot_ne (Or.inl (hw _ (List.mem_of_getElem? (i := 123) rfl))) (Or.inl (hw _ (List.mem_of_getElem? (i := 117) rfl))) (by decide) (t := .int) (t' := .int) (by decide) (by decide))), S.n4.other W (Or.inr (slot_ne (Or.inl (hw _ (List.mem_of_getElem? (i := 50) rfl))) (Or.inl (hw _ (List.mem_of_getElem? (i := 117) rfl))) (by decide) (t := .int) (t' := .int) (by decide) (by decide))), S.f0.other W (Or.inr (slot_ne (Or.inl (hw _ (List.mem_of_getElem? (i := 17) rfl))) (Or.inl (hw _ (List.mem_of_getElem? (i := 117) rfl))) (by decide) (t := (.array (.object "java/lang/String"))) (t' := .int) (by decide) (by decide))), S.f1.other W (Or.inr (slot_ne (Or.inl (hw _ (List.mem_of_getElem? (i := 19) rfl))) (Or.inl (hw _ (List.mem_of_getElem? (i := 117) rfl))) (by decide) (t := (.array (.object "java/lang/String"))) (t' := .int) (by decide) (by decide))), S.f2.other W (Or.inr (slot_ne (Or.inl (hw _ (List.mem_of_getElem? (i := 21) rfl))) (Or.inl (hw _ (List.mem_of_getElem? (i := 117) rfl))) (by decide) (t := (.array (.object "java/lang/String"))) (t' := .int) (by decide) (by decide))), S.f3.other W (Or.inr (slot_ne (Or.inl (hw _ (List.mem_of_getElem? (i := 24) rfl))) (Or.inl (hw _ (List.mem_of_getElem? (i := 117) rfl))) (by decide) (t := (.array .int)) (t' := .int) (by decide) (by decide))), S.f4.other W (Or.inr (slot_ne (Or.inl (hw _ (List.mem_of_getElem? (i := 26) rfl))) (Or.inl (hw _ (List.mem_of_getElem? (i := 117) rfl))) (by decide) (t := (.array .int)) (t' := .int) (by decide) (by decide))), S.f5.other W (Or.inr (slot_ne (Or.inl (hw _ (List.mem_of_getElem? (i := 33) rfl))) (Or.inl (hw _ (List.mem_of_getElem? (i := 117) rfl))) (by decide) (t := (.array .boolean)) (t' := .int) (by decide) (by decide))), S.f6.other W (Or.inr (slot_ne (Or.inl (hw _ (List.mem_of_getElem? (i := 35) rfl))) (Or.inl (hw _ (List.mem_of_getElem? (i := 117) rfl))) (by decide) (t := (.array (.object "java/lang/String"))) (t' := .int) (by decide) (by decide))), S.f7.other W (Or.inr (slot_ne (Or.inl (hw _ (List.mem_of_getElem? (i := 37) rfl))) (Or.inl (hw _ (List.mem_of_getElem? (i := 117) rfl))) (by decide) (t := (.array (.object "java/lang/String"))) (t' := .int) (by decide) (by decide))), S.f8.other W (Or.inr (slot_ne (Or.inl (hw _ (List.mem_of_getElem? (i := 39) rfl))) (Or.inl (hw _ (List.mem_of_getElem? (i := 117) rfl))) (by decide) (t := (.array (.object "java/lang/String"))) (t' := .int) (by decide) (by decide))), S.f9.other W (Or.inr (slot_ne (Or.inl (hw _ (List.mem_of_getElem? (i := 41) rfl))) (Or.inl (hw _ (List.mem_of_getElem? (i := 117) rfl))) (by decide) (t := (.array (.object "java/lang/String"))) (t' := .int) (by decide) (by decide))), S.f10.other W (Or.inr (slot_ne (Or.inl (hw _ (List.mem_of_getElem? (i := 43) rfl))) (Or.inl (hw _ (List.mem_of_getElem? (i := 117) rfl))) (by decide) (t := (.array (.object "java/lang/String"))) (t' := .int) (by decide) (by decide))), S.f11.other W (Or.inr (slot_ne (Or.inl (hw _ (List.mem_of_getElem? (i := 48) rfl))) (Or.inl (hw _ (List.mem_of_getElem? (i := 117) rfl))) (by decide) (t := (.array .char)) (t' := .int) (by decide) (by decide))), S.w0.other W (Ne.symm (S.w0.ne S.E (hw _ (List.mem_of_getElem? (i := 6) rfl)))), S.w1.other W (Ne.symm (S.w1.ne S.E (hw _ (List.mem_of_getElem? (i := 6) rfl)))), S.w2.other W (Ne.symm (S.w2.ne S.E (hw _ (List.mem_of_getElem? (i := 6) rfl)))), S.w3.other W (Ne.symm (S.w3.ne S.E (hw _ (List.mem_of_getElem? (i := 6) rfl)))), S.w4.other W (Ne.symm (S.w4.ne S.E (hw _ (List.mem_of_getElem? (i := 6) rfl)))), S.w5.other W (Ne.symm (S.w5.ne S.E (hw _ (List.mem_of_getElem? (i := 6) rfl)))), S.w6.other W (Ne.symm (S.w6.ne S.E (hw _ (List.mem_of_getElem? (i := 6) rfl)))), S.w7.other W (Ne.symm (S.w7.ne S.E (hw _ (List.mem_of_getElem? (i := 6) rfl)))), S.w8.other W (Ne.symm (S.w8.ne S.E (hw _ (List.mem_of_getElem? (i := 6) rfl)))), S.w9.other W (Ne.symm (S.w9.ne S.E (hw _ (List.mem_of_getElem? (i := 6) rfl)))), S.w10.other W (Ne.symm (S.w10.ne S.E (hw _ (List.mem_of_getElem? (i := 6) rfl)))), S.w11.other W (Ne.symm (S.w11.ne S.E (hw _ (List.mem_of_getElem? (i := 6) rfl))))⟩
theorem OwS.put3 (hw : ∀ d ∈ tables_1, d.before a0 Z = true) (S : OwS Z h o k ad) (W : Wr h h' o (Jvm.RoadKit.slotOf Z "com/example/narrow_view/narrowview/StartTags" "valueCount" "I") (.int z)) (hz : z = 0) : OwS Z h' o k ad := by
  subst hz
  exact ⟨S.E.wr W, S.n0.other W (Or.inr (slot_ne (Or.inl (hw _ (List.mem_of_getElem? (i := 90) rfl))) (Or.inl (hw _ (List.mem_of_getElem? (i := 123) rfl))) (by decide) (t := .int) (t' := .int) (by decide) (by decide))), S.n1.other W (Or.inr (slot_ne (Or.inl (hw _ (List.mem_of_getElem? (i := 106) rfl))) (Or.inl (hw _ (List.mem_of_getElem? (i := 123) rfl))) (by decide) (t := .int) (t' := .int) (by decide) (by decide))), S.n2.other W (Or.inr (slot_ne (Or.inl (hw _ (List.mem_of_getElem? (i := 117) rfl))) (Or.inl (hw _ (List.mem_of_getElem? (i := 123) rfl))) (by decide) (t := .int) (t' := .int) (by decide) (by decide))), S.n3.same W, S.n4.other W (Or.inr (slot_ne (Or.inl (hw _ (List.mem_of_getElem? (i := 50) rfl))) (Or.inl (hw _ (List.mem_of_getElem? (i := 123) rfl))) (by decide) (t := .int) (t' := .int) (by decide) (by decide))), S.f0.other W (Or.inr (slot_ne (Or.inl (hw _ (List.mem_of_getElem? (i := 17) rfl))) (Or.inl (hw _ (List.mem_of_getElem? (i := 123) rfl))) (by decide) (t := (.array (.object "java/lang/String"))) (t' := .int) (by decide) (by decide))), S.f1.other W (Or.inr (slot_ne (Or.inl (hw _ (List.mem_of_getElem? (i := 19) rfl))) (Or.inl (hw _ (List.mem_of_getElem? (i := 123) rfl))) (by decide) (t := (.array (.object "java/lang/String"))) (t' := .int) (by decide) (by decide))), S.f2.other W (Or.inr (slot_ne (Or.inl (hw _ (List.mem_of_getElem? (i := 21) rfl))) (Or.inl (hw _ (List.mem_of_getElem? (i := 123) rfl))) (by decide) (t := (.array (.object "java/lang/String"))) (t' := .int) (by decide) (by decide))), S.f3.other W (Or.inr (slot_ne (Or.inl (hw _ (List.mem_of_getElem? (i := 24) rfl))) (Or.inl (hw _ (List.mem_of_getElem? (i := 123) rfl))) (by decide) (t := (.array .int)) (t' := .int) (by decide) (by decide))), S.f4.other W (Or.inr (slot_ne (Or.inl (hw _ (List.mem_of_getElem? (i := 26) rfl))) (Or.inl (hw _ (List.mem_of_getElem? (i := 123) rfl))) (by decide) (t := (.array .int)) (t' := .int) (by decide) (by decide))), S.f5.other W (Or.inr (slot_ne (Or.inl (hw _ (List.mem_of_getElem? (i := 33) rfl))) (Or.inl (hw _ (List.mem_of_getElem? (i := 123) rfl))) (by decide) (t := (.array .boolean)) (t' := .int) (by decide) (by decide))), S.f6.other W (Or.inr (slot_ne (Or.inl (hw _ (List.mem_of_getElem? (i := 35) rfl))) (Or.inl (hw _ (List.mem_of_getElem? (i := 123) rfl))) (by decide) (t := (.array (.object "java/lang/String"))) (t' := .int) (by decide) (by decide))), S.f7.other W (Or.inr (slot_ne (Or.inl (hw _ (List.mem_of_getElem? (i := 37) rfl))) (Or.inl (hw _ (List.mem_of_getElem? (i := 123) rfl))) (by decide) (t := (.array (.object "java/lang/String"))) (t' := .int) (by decide) (by decide))), S.f8.other W (Or.inr (slot_ne (Or.inl (hw _ (List.mem_of_getElem? (i := 39) rfl))) (Or.inl (hw _ (List.mem_of_getElem? (i := 123) rfl))) (by decide) (t := (.array (.object "java/lang/String"))) (t' := .int) (by decide) (by decide))), S.f9.other W (Or.inr (slot_ne (Or.inl (hw _ (List.mem_of_getElem? (i := 41) rfl))) (Or.inl (hw _ (List.mem_of_getElem? (i := 123) rfl))) (by decide) (t := (.array (.object "java/lang/String"))) (t' := .int) (by decide) (by decide))), S.f10.other W (Or.inr (slot_ne (Or.inl (hw _ (List.mem_of_getElem? (i := 43) rfl))) (Or.inl (hw _ (List.mem_of_getElem? (i := 123) rfl))) (by decide) (t := (.array (.object "java/lang/String"))) (t' := .int) (by decide) (by decide))), S.f11.other W (Or.inr (slot_ne (Or.inl (hw _ (List.mem_of_getElem? (i := 48) rfl))) (Or.inl (hw _ (List.mem_of_getElem? (i := 123) rfl))) (by decide) (t := (.array .char)) (t' := .int) (by decide) (by decide))), S.w0.other W (Ne.symm (S.w0.ne S.E (hw _ (List.mem_of_getElem? (i := 6) rfl)))), S.w1.other W (Ne.symm (S.w1.ne S.E (hw _ (List.mem_of_getElem? (i := 6) rfl)))), S.w2.other W (Ne.symm (S.w2.ne S.E (hw _ (List.mem_of_getElem? (i := 6) rfl)))), S.w3.other W (Ne.symm (S.w3.ne S.E (hw _ (List.mem_of_getElem? (i := 6) rfl)))), S.w4.other W (Ne.symm (S.w4.ne S.E (hw _ (List.mem_of_getElem? (i := 6) rfl)))), S.w5.other W (Ne.symm (S.w5.ne S.E (hw _ (List.mem_of_getElem? (i := 6) rfl)))), S.w6.other W (Ne.symm (S.w6.ne S.E (hw _ (List.mem_of_getElem? (i := 6) rfl)))), S.w7.other W (Ne.symm (S.w7.ne S.E (hw _ (List.mem_of_getElem? (i := 6) rfl)))), S.w8.other W (Ne.symm (S.w8.ne S.E (hw _ (List.mem_of_getElem? (i := 6) rfl)))), S.w9.other W (Ne.symm (S.w9.ne S.E (hw _ (List.mem_of_getElem? (i := 6) rfl)))), S.w10.other W (Ne.symm (S.w10.ne S.E (hw _ (List.mem_of_getElem? (i := 6) rfl)))), S.w11.other W (Ne.symm (S.w11.ne S.E (hw _ (List.mem_of_getElem? (i := 6) rfl))))⟩
theorem OwS.put4 (hw : ∀ d ∈ tables_1, d.before a0 Z = true) (S : OwS Z h o k ad) (W : Wr h h' o (Jvm.RoadKit.slotOf Z "com/example/narrow_view/narrowview/StartTags" "suppliedTag" "I") (.int z)) (hz : z = (-1)) : OwS Z h' o k ad := by
  subst hz
  exact ⟨S.E.wr W, S.n0.other W (Or.inr (slot_ne (Or.inl (hw _ (List.mem_of_getElem? (i := 90) rfl))) (Or.inl (hw _ (List.mem_of_getElem? (i := 50) rfl))) (by decide) (t := .int) (t' := .int) (by decide) (by decide))), S.n1.other W (Or.inr (slot_ne (Or.inl (hw _ (List.mem_of_getElem? (i := 106) rfl))) (Or.inl (hw _ (List.mem_of_getElem? (i := 50) rfl))) (by decide) (t := .int) (t' := .int) (by decide) (by decide))), S.n2.other W (Or.inr (slot_ne (Or.inl (hw _ (List.mem_of_getElem? (i := 117) rfl))) (Or.inl (hw _ (List.mem_of_getElem? (i := 50) rfl))) (by decide) (t := .int) (t' := .int) (by decide) (by decide))), S.n3.other W (Or.inr (slot_ne (Or.inl (hw _ (List.mem_of_getElem? (i := 123) rfl))) (Or.inl (hw _ (List.mem_of_getElem? (i := 50) rfl))) (by decide) (t := .int) (t' := .int) (by decide) (by decide))), S.n4.same W, S.f0.other W (Or.inr (slot_ne (Or.inl (hw _ (List.mem_of_getElem? (i := 17) rfl))) (Or.inl (hw _ (List.mem_of_getElem? (i := 50) rfl))) (by decide) (t := (.array (.object "java/lang/String"))) (t' := .int) (by decide) (by decide))), S.f1.other W (Or.inr (slot_ne (Or.inl (hw _ (List.mem_of_getElem? (i := 19) rfl))) (Or.inl (hw _ (List.mem_of_getElem? (i := 50) rfl))) (by decide) (t := (.array (.object "java/lang/String"))) (t' := .int) (by decide) (by decide))), S.f2.other W (Or.inr (slot_ne (Or.inl (hw _ (List.mem_of_getElem? (i := 21) rfl))) (Or.inl (hw _ (List.mem_of_getElem? (i := 50) rfl))) (by decide) (t := (.array (.object "java/lang/String"))) (t' := .int) (by decide) (by decide))), S.f3.other W (Or.inr (slot_ne (Or.inl (hw _ (List.mem_of_getElem? (i := 24) rfl))) (Or.inl (hw _ (List.mem_of_getElem? (i := 50) rfl))) (by decide) (t := (.array .int)) (t' := .int) (by decide) (by decide))), S.f4.other W (Or.inr (slot_ne (Or.inl (hw _ (List.mem_of_getElem? (i := 26) rfl))) (Or.inl (hw _ (List.mem_of_getElem? (i := 50) rfl))) (by decide) (t := (.array .int)) (t' := .int) (by decide) (by decide))), S.f5.other W (Or.inr (slot_ne (Or.inl (hw _ (List.mem_of_getElem? (i := 33) rfl))) (Or.inl (hw _ (List.mem_of_getElem? (i := 50) rfl))) (by decide) (t := (.array .boolean)) (t' := .int) (by decide) (by decide))), S.f6.other W (Or.inr (slot_ne (Or.inl (hw _ (List.mem_of_getElem? (i := 35) rfl))) (Or.inl (hw _ (List.mem_of_getElem? (i := 50) rfl))) (by decide) (t := (.array (.object "java/lang/String"))) (t' := .int) (by decide) (by decide))), S.f7.other W (Or.inr (slot_ne (Or.inl (hw _ (List.mem_of_getElem? (i := 37) rfl))) (Or.inl (hw _ (List.mem_of_getElem? (i := 50) rfl))) (by decide) (t := (.array (.object "java/lang/String"))) (t' := .int) (by decide) (by decide))), S.f8.other W (Or.inr (slot_ne (Or.inl (hw _ (List.mem_of_getElem? (i := 39) rfl))) (Or.inl (hw _ (List.mem_of_getElem? (i := 50) rfl))) (by decide) (t := (.array (.object "java/lang/String"))) (t' := .int) (by decide) (by decide))), S.f9.other W (Or.inr (slot_ne (Or.inl (hw _ (List.mem_of_getElem? (i := 41) rfl))) (Or.inl (hw _ (List.mem_of_getElem? (i := 50) rfl))) (by decide) (t := (.array (.object "java/lang/String"))) (t' := .int) (by decide) (by decide))), S.f10.other W (Or.inr (slot_ne (Or.inl (hw _ (List.mem_of_getElem? (i := 43) rfl))) (Or.inl (hw _ (List.mem_of_getElem? (i := 50) rfl))) (by decide) (t := (.array (.object "java/lang/String"))) (t' := .int) (by decide) (by decide))), S.f11.other W (Or.inr (slot_ne (Or.inl (hw _ (List.mem_of_getElem? (i := 48) rfl))) (Or.inl (hw _ (List.mem_of_getElem? (i := 50) rfl))) (by decide) (t := (.array .char)) (t' := .int) (by decide) (by decide))), S.w0.other W (Ne.symm (S.w0.ne S.E (hw _ (List.mem_of_getElem? (i := 6) rfl)))), S.w1.other W (Ne.symm (S.w1.ne S.E (hw _ (List.mem_of_getElem? (i := 6) rfl)))), S.w2.other W (Ne.symm (S.w2.ne S.E (hw _ (List.mem_of_getElem? (i := 6) rfl)))), S.w3.other W (Ne.symm (S.w3.ne S.E (hw _ (List.mem_of_getElem? (i := 6) rfl)))), S.w4.other W (Ne.symm (S.w4.ne S.E (hw _ (List.mem_of_getElem? (i := 6) rfl)))), S.w5.other W (Ne.symm (S.w5.ne S.E (hw _ (List.mem_of_getElem? (i := 6) rfl)))), S.w6.other W (Ne.symm (S.w6.ne S.E (hw _ (List.mem_of_getElem? (i := 6) rfl)))), S.w7.other W (Ne.symm (S.w7.ne S.E (hw _ (List.mem_of_getElem? (i := 6) rfl)))), S.w8.other W (Ne.symm (S.w8.ne S.E (hw _ (List.mem_of_getElem? (i := 6) rfl)))), S.w9.other W (Ne.symm (S.w9.ne S.E (hw _ (List.mem_of_getElem? (i := 6) rfl)))), S.w10.other W (Ne.symm (S.w10.ne S.E (hw _ (List.mem_of_getElem? (i := 6) rfl)))), S.w11.other W (Ne.symm (S.w11.ne S.E (hw _ (List.mem_of_getElem? (i := 6) rfl))))⟩
def OwG (n0 N : Nat) (o q : Addr) (ad bd : Nat → Addr) : Prop :=
  (n0 ≤ o) ∧
  (o < N) ∧
  (N ≤ q) ∧
  (∀ j, j < 12 → n0 ≤ ad j ∧ ad j < N ∧ N ≤ bd j) ∧
  (∀ i j, i < 12 → j < 12 → i ≠ j → ad i ≠ ad j)
theorem OwG.lo {n0 N : Nat} (S : OwG n0 N o q ad bd) : n0 ≤ o := S.1
theorem OwG.ol {n0 N : Nat} (S : OwG n0 N o q ad bd) : o < N := S.2.1
theorem OwG.nq {n0 N : Nat} (S : OwG n0 N o q ad bd) : N ≤ q := S.2.2.1
theorem OwG.al {n0 N : Nat} (S : OwG n0 N o q ad bd) : ∀ j, j < 12 → n0 ≤ ad j ∧ ad j < N ∧ N ≤ bd j := S.2.2.2.1
theorem OwG.inj {n0 N : Nat} (S : OwG n0 N o q ad bd) : ∀ i j, i < 12 → j < 12 → i ≠ j → ad i ≠ ad j := S.2.2.2.2
theorem OwG.kq {n0 N : Nat} {x : Addr} (G : OwG n0 N o q ad bd) (S : OwS Z h q k bd) (hx : x < N) (K : Keep h h' [x]) : OwS Z h' q k bd := S.keep K (own_nm (own_gne hx G.nq)) (fun j hj => own_nm (own_gne hx (G.al j hj).2.2))
/-- a count that lies between 0 and 14 -/
def OwSm (k : Int32) : Prop := 0 ≤ k.toInt ∧ k.toInt < 15
theorem OwSm.n0 {k : Int32} (q : OwSm k) : ¬ k < 0 := fun w => by
  rw [Int32.lt_iff_toInt_lt] at w; have : (0 : Int32).toInt = 0 := rfl
  have := q.1; omega
theorem OwSm.n16 {k : Int32} (q : OwSm k) : k.toNatClampNeg < 16 := by
  have h := q.2; show k.toInt.toNat < 16; omega
theorem OwSm.ne {k : Int32} (q : OwSm k) : ¬ k = (16 : Int32) := fun w => by
  have h := q.2; rw [w] at h; revert h; decide
end OwnStore
theorem d11_0 : decode prog_63_method_10_code 0 = .ok (.iload_n 1, 1) := by decide +kernel
theorem d11_1 : decode prog_63_method_10_code 1 = .ok (.iconst 1, 1) := by decide +kernel
theorem d11_2 : decode prog_63_method_10_code 2 = .ok (.iadd, 1) := by decide +kernel
theorem d11_3 : decode prog_63_method_10_code 3 = .ok (.aload_n 0, 1) := by decide +kernel
theorem d11_4 : decode prog_63_method_10_code 4 = .ok (.getfield 92, 3) := by decide +kernel
theorem d11_7 : decode prog_63_method_10_code 7 = .ok (.if_icmp .ge 14, 3) := by decide +kernel
theorem d11_10 : decode prog_63_method_10_code 10 = .ok (.aload_n 0, 1) := by decide +kernel
theorem d11_11 : decode prog_63_method_10_code 11 = .ok (.getfield 21, 3) := by decide +kernel
theorem d11_14 : decode prog_63_method_10_code 14 = .ok (.iload_n 1, 1) := by decide +kernel
theorem d11_15 : decode prog_63_method_10_code 15 = .ok (.iconst 1, 1) := by decide +kernel
theorem d11_16 : decode prog_63_method_10_code 16 = .ok (.iadd, 1) := by decide +kernel
theorem d11_17 : decode prog_63_method_10_code 17 = .ok (.iaload, 1) := by decide +kernel
theorem d11_18 : decode prog_63_method_10_code 18 = .ok (.goto 7, 3) := by decide +kernel
theorem d11_21 : decode prog_63_method_10_code 21 = .ok (.aload_n 0, 1) := by decide +kernel
theorem d11_22 : decode prog_63_method_10_code 22 = .ok (.getfield 114, 3) := by decide +kernel
theorem d11_25 : decode prog_63_method_10_code 25 = .ok (.aload_n 0, 1) := by decide +kernel
theorem d11_26 : decode prog_63_method_10_code 26 = .ok (.getfield 21, 3) := by decide +kernel
theorem d11_29 : decode prog_63_method_10_code 29 = .ok (.iload_n 1, 1) := by decide +kernel
theorem d11_30 : decode prog_63_method_10_code 30 = .ok (.iaload, 1) := by decide +kernel
theorem d11_31 : decode prog_63_method_10_code 31 = .ok (.isub, 1) := by decide +kernel
theorem d11_32 : decode prog_63_method_10_code 32 = .ok (.ireturn, 1) := by decide +kernel
theorem pn_11 : plainFor (⟨"com/example/narrow_view/narrowview/StartTags", "namespaceCount", "(I)I"⟩ : MethodName) = true := by first | exact plainFor_of_name (by first | (simp [plainName, overriddenIn]; done) | decide +kernel) | decide +kernel
theorem pd_0 : parseMethodDescriptor "(I)I" = some ⟨[.int], (some .int)⟩ := by decide +kernel
set_option maxRecDepth 65536 in
set_option maxHeartbeats 40000000 in
theorem rm_nsc (l : Launch) (Z : State) (a0 : Array Value) (hw : ∀ d ∈ tables_1, d.before a0 Z = true) (q : Addr) (bd : Nat → Addr) (h0 : Heap) (S2 : OwS Z h0 q 0 bd) :
    OwCon l (⟨"com/example/narrow_view/narrowview/StartTags", "namespaceCount", "(I)I"⟩ : MethodName) prog_63_method_10_code 2 (some .int) ({ frames := 0, cells := 0, slots := 0, locals := 0 } : Room) Z #[(.ref q), (.int (0 : Int32))] h0 (OwP (some (.int 0)) h0) := by
  refine OwCon.of pn_11 (Ls := #[.val (.ref q), .val (.int (0 : Int32))]) (fun m => by first | (simp [entryFrame, mkF, argsToLocals, Value.category]; done) | rfl) ?_
  intro p e s m below meth c s₁ C X0 e0
  refine ow_iloadN C X0 d11_0 rfl (pc' := 1) rfl ?_
  refine ow_iconst (1 : Int32) C X0 d11_1 (by decide) (pc' := 2) rfl ?_
  refine ow_iadd C X0 d11_2 (pc' := 3) rfl ?_
  refine ow_aloadN C X0 d11_3 rfl rfl (pc' := 4) rfl ?_
  refine ow_getF C X0 e0 (hw _ (List.mem_of_getElem? (i := 89) rfl)) S2.n0 d11_4 (pc' := 7) rfl (fun T1 X1 e1 => ?_)
  refine ow_icmp_ge C X1 d11_7 (pcT := 21) (pc' := 10) (by decide) (by decide) rfl (fun _ => ?_) (fun bq => absurd bq (by decide))
  refine ow_aloadN C X1 d11_21 rfl rfl (pc' := 22) rfl ?_
  refine ow_getF C X1 e1 (hw _ (List.mem_of_getElem? (i := 105) rfl)) S2.n1 d11_22 (pc' := 25) rfl (fun T2 X2 e2 => ?_)
  refine ow_aloadN C X2 d11_25 rfl rfl (pc' := 26) rfl ?_
  refine ow_getF C X2 e2 (hw _ (List.mem_of_getElem? (i := 23) rfl)) S2.f3 d11_26 (pc' := 29) rfl (fun T3 X3 e3 => ?_)
  refine ow_iloadN C X3 d11_29 rfl (pc' := 30) rfl ?_
  refine ow_iaload (i := 0) C X3 e3 S2.w3 (by decide) (by decide) (Nat.le_of_ble_eq_true rfl) (v := (.int (0 : Int32))) rfl d11_30 (pc' := 31) rfl ?_
  refine ow_isub C X3 d11_31 (pc' := 32) rfl ?_
  exact ow_retI C X3 d11_32 (Nat.le_of_ble_eq_true rfl) (Nat.le_of_ble_eq_true rfl) ⟨rfl, rfl, e3⟩
theorem d12_0 : decode prog_63_method_21_code 0 = .ok (.iload_n 1, 1) := by decide +kernel
theorem d12_1 : decode prog_63_method_21_code 1 = .ok (.iconst 1, 1) := by decide +kernel
theorem d12_2 : decode prog_63_method_21_code 2 = .ok (.iadd, 1) := by decide +kernel
theorem d12_3 : decode prog_63_method_21_code 3 = .ok (.aload_n 0, 1) := by decide +kernel
theorem d12_4 : decode prog_63_method_21_code 4 = .ok (.getfield 92, 3) := by decide +kernel
theorem d12_7 : decode prog_63_method_21_code 7 = .ok (.if_icmp .ge 14, 3) := by decide +kernel
theorem d12_10 : decode prog_63_method_21_code 10 = .ok (.aload_n 0, 1) := by decide +kernel
theorem d12_11 : decode prog_63_method_21_code 11 = .ok (.getfield 25, 3) := by decide +kernel
theorem d12_14 : decode prog_63_method_21_code 14 = .ok (.iload_n 1, 1) := by decide +kernel
theorem d12_15 : decode prog_63_method_21_code 15 = .ok (.iconst 1, 1) := by decide +kernel
theorem d12_16 : decode prog_63_method_21_code 16 = .ok (.iadd, 1) := by decide +kernel
theorem d12_17 : decode prog_63_method_21_code 17 = .ok (.iaload, 1) := by decide +kernel
theorem d12_18 : decode prog_63_method_21_code 18 = .ok (.goto 7, 3) := by decide +kernel
theorem d12_21 : decode prog_63_method_21_code 21 = .ok (.aload_n 0, 1) := by decide +kernel
theorem d12_22 : decode prog_63_method_21_code 22 = .ok (.getfield 131, 3) := by decide +kernel
theorem d12_25 : decode prog_63_method_21_code 25 = .ok (.aload_n 0, 1) := by decide +kernel
theorem d12_26 : decode prog_63_method_21_code 26 = .ok (.getfield 25, 3) := by decide +kernel
theorem d12_29 : decode prog_63_method_21_code 29 = .ok (.iload_n 1, 1) := by decide +kernel
theorem d12_30 : decode prog_63_method_21_code 30 = .ok (.iaload, 1) := by decide +kernel
theorem d12_31 : decode prog_63_method_21_code 31 = .ok (.isub, 1) := by decide +kernel
theorem d12_32 : decode prog_63_method_21_code 32 = .ok (.ireturn, 1) := by decide +kernel
theorem pn_12 : plainFor (⟨"com/example/narrow_view/narrowview/StartTags", "ownAttributeCount", "(I)I"⟩ : MethodName) = true := by first | exact plainFor_of_name (by first | (simp [plainName, overriddenIn]; done) | decide +kernel) | decide +kernel
set_option maxRecDepth 65536 in
set_option maxHeartbeats 40000000 in
theorem rm_oac (l : Launch) (Z : State) (a0 : Array Value) (hw : ∀ d ∈ tables_1, d.before a0 Z = true) (q : Addr) (bd : Nat → Addr) (h0 : Heap) (S2 : OwS Z h0 q 0 bd) :
    OwCon l (⟨"com/example/narrow_view/narrowview/StartTags", "ownAttributeCount", "(I)I"⟩ : MethodName) prog_63_method_21_code 2 (some .int) ({ frames := 0, cells := 0, slots := 0, locals := 0 } : Room) Z #[(.ref q), (.int (0 : Int32))] h0 (OwP (some (.int 0)) h0) := by
  refine OwCon.of pn_12 (Ls := #[.val (.ref q), .val (.int (0 : Int32))]) (fun m => by first | (simp [entryFrame, mkF, argsToLocals, Value.category]; done) | rfl) ?_
  intro p e s m below meth c s₁ C X0 e0
  refine ow_iloadN C X0 d12_0 rfl (pc' := 1) rfl ?_
  refine ow_iconst (1 : Int32) C X0 d12_1 (by decide) (pc' := 2) rfl ?_
  refine ow_iadd C X0 d12_2 (pc' := 3) rfl ?_
  refine ow_aloadN C X0 d12_3 rfl rfl (pc' := 4) rfl ?_
  refine ow_getF C X0 e0 (hw _ (List.mem_of_getElem? (i := 89) rfl)) S2.n0 d12_4 (pc' := 7) rfl (fun T4 X4 e4 => ?_)
  refine ow_icmp_ge C X4 d12_7 (pcT := 21) (pc' := 10) (by decide) (by decide) rfl (fun _ => ?_) (fun bq => absurd bq (by decide))
  refine ow_aloadN C X4 d12_21 rfl rfl (pc' := 22) rfl ?_
  refine ow_getF C X4 e4 (hw _ (List.mem_of_getElem? (i := 116) rfl)) S2.n2 d12_22 (pc' := 25) rfl (fun T5 X5 e5 => ?_)
  refine ow_aloadN C X5 d12_25 rfl rfl (pc' := 26) rfl ?_
  refine ow_getF C X5 e5 (hw _ (List.mem_of_getElem? (i := 25) rfl)) S2.f4 d12_26 (pc' := 29) rfl (fun T6 X6 e6 => ?_)
  refine ow_iloadN C X6 d12_29 rfl (pc' := 30) rfl ?_
  refine ow_iaload (i := 0) C X6 e6 S2.w4 (by decide) (by decide) (Nat.le_of_ble_eq_true rfl) (v := (.int (0 : Int32))) rfl d12_30 (pc' := 31) rfl ?_
  refine ow_isub C X6 d12_31 (pc' := 32) rfl ?_
  exact ow_retI C X6 d12_32 (Nat.le_of_ble_eq_true rfl) (Nat.le_of_ble_eq_true rfl) ⟨rfl, rfl, e6⟩
theorem d13_0 : decode prog_63_method_26_code 0 = .ok (.aload_n 0, 1) := by decide +kernel
theorem d13_1 : decode prog_63_method_26_code 1 = .ok (.getfield 164, 3) := by decide +kernel
theorem d13_4 : decode prog_63_method_26_code 4 = .ok (.iload_n 3, 1) := by decide +kernel
theorem d13_5 : decode prog_63_method_26_code 5 = .ok (.iadd, 1) := by decide +kernel
theorem d13_6 : decode prog_63_method_26_code 6 = .ok (.aload_n 0, 1) := by decide +kernel
theorem d13_7 : decode prog_63_method_26_code 7 = .ok (.getfield 56, 3) := by decide +kernel
theorem d13_10 : decode prog_63_method_26_code 10 = .ok (.arraylength, 1) := by decide +kernel
theorem d13_11 : decode prog_63_method_26_code 11 = .ok (.if_icmp .le 30, 3) := by decide +kernel
theorem d13_14 : decode prog_63_method_26_code 14 = .ok (.aload_n 0, 1) := by decide +kernel
theorem d13_15 : decode prog_63_method_26_code 15 = .ok (.aload_n 0, 1) := by decide +kernel
theorem d13_16 : decode prog_63_method_26_code 16 = .ok (.getfield 56, 3) := by decide +kernel
theorem d13_19 : decode prog_63_method_26_code 19 = .ok (.aload_n 0, 1) := by decide +kernel
theorem d13_20 : decode prog_63_method_26_code 20 = .ok (.getfield 164, 3) := by decide +kernel
theorem d13_23 : decode prog_63_method_26_code 23 = .ok (.iload_n 3, 1) := by decide +kernel
theorem d13_24 : decode prog_63_method_26_code 24 = .ok (.iadd, 1) := by decide +kernel
theorem d13_25 : decode prog_63_method_26_code 25 = .ok (.aload_n 0, 1) := by decide +kernel
theorem d13_26 : decode prog_63_method_26_code 26 = .ok (.getfield 56, 3) := by decide +kernel
theorem d13_29 : decode prog_63_method_26_code 29 = .ok (.arraylength, 1) := by decide +kernel
theorem d13_30 : decode prog_63_method_26_code 30 = .ok (.iconst 2, 1) := by decide +kernel
theorem d13_31 : decode prog_63_method_26_code 31 = .ok (.imul, 1) := by decide +kernel
theorem d13_32 : decode prog_63_method_26_code 32 = .ok (.invokestatic 255, 3) := by decide +kernel
theorem d13_35 : decode prog_63_method_26_code 35 = .ok (.invokestatic 260, 3) := by decide +kernel
theorem d13_38 : decode prog_63_method_26_code 38 = .ok (.putfield 56, 3) := by decide +kernel
theorem d13_41 : decode prog_63_method_26_code 41 = .ok (.aload_n 1, 1) := by decide +kernel
theorem d13_42 : decode prog_63_method_26_code 42 = .ok (.iload_n 2, 1) := by decide +kernel
theorem d13_43 : decode prog_63_method_26_code 43 = .ok (.aload_n 0, 1) := by decide +kernel
theorem d13_44 : decode prog_63_method_26_code 44 = .ok (.getfield 56, 3) := by decide +kernel
theorem d13_47 : decode prog_63_method_26_code 47 = .ok (.aload_n 0, 1) := by decide +kernel
theorem d13_48 : decode prog_63_method_26_code 48 = .ok (.getfield 164, 3) := by decide +kernel
theorem d13_51 : decode prog_63_method_26_code 51 = .ok (.iload_n 3, 1) := by decide +kernel
theorem d13_52 : decode prog_63_method_26_code 52 = .ok (.invokestatic 177, 3) := by decide +kernel
theorem d13_55 : decode prog_63_method_26_code 55 = .ok (.aload_n 0, 1) := by decide +kernel
theorem d13_56 : decode prog_63_method_26_code 56 = .ok (.dup, 1) := by decide +kernel
theorem d13_57 : decode prog_63_method_26_code 57 = .ok (.getfield 164, 3) := by decide +kernel
theorem d13_60 : decode prog_63_method_26_code 60 = .ok (.iload_n 3, 1) := by decide +kernel
theorem d13_61 : decode prog_63_method_26_code 61 = .ok (.iadd, 1) := by decide +kernel
theorem d13_62 : decode prog_63_method_26_code 62 = .ok (.putfield 164, 3) := by decide +kernel
theorem d13_65 : decode prog_63_method_26_code 65 = .ok (.return_, 1) := by decide +kernel
theorem pn_13 : plainFor (⟨"com/example/narrow_view/narrowview/StartTags", "copyValue", "([CII)V"⟩ : MethodName) = true := by first | exact plainFor_of_name (by first | (simp [plainName, overriddenIn]; done) | decide +kernel) | decide +kernel
theorem pd_1 : parseMethodDescriptor "([CII)V" = some ⟨[(.array .char), .int, .int], none⟩ := by decide +kernel
set_option maxRecDepth 65536 in
set_option maxHeartbeats 40000000 in
theorem rm_cpv (l : Launch) (Z : State) (a0 : Array Value) (hw : ∀ d ∈ tables_1, d.before a0 Z = true) (o q : Addr) (k : Int32) (ad bd : Nat → Addr) (h0 : Heap) (n0 N : Nat) (S1 : OwS Z h0 o k ad) (S2 : OwS Z h0 q 0 bd) (G : OwG n0 N o q ad bd) :
    OwCon l (⟨"com/example/narrow_view/narrowview/StartTags", "copyValue", "([CII)V"⟩ : MethodName) prog_63_method_26_code 4 none ({ frames := 1, cells := 0, slots := 0, locals := 30 } : Room) Z #[(.ref o), (.ref (bd 11)), (.int (0 : Int32)), (.int (0 : Int32))] h0 (fun v h L => v = none ∧ Fr n0 L ∧ OwS Z h o k ad ∧ OwS Z h q 0 bd) := by
  refine OwCon.of pn_13 (Ls := #[.val (.ref o), .val (.ref (bd 11)), .val (.int (0 : Int32)), .val (.int (0 : Int32))]) (fun m => by first | (simp [entryFrame, mkF, argsToLocals, Value.category]; done) | rfl) ?_
  intro p e s m below meth c s₁ C X0 e0
  refine ow_aloadN C X0 d13_0 rfl rfl (pc' := 1) rfl ?_
  refine ow_getF C X0 e0 (hw _ (List.mem_of_getElem? (i := 122) rfl)) S1.n3 d13_1 (pc' := 4) rfl (fun T7 X7 e7 => ?_)
  refine ow_iloadN C X7 d13_4 rfl (pc' := 5) rfl ?_
  refine ow_iadd C X7 d13_5 (pc' := 6) rfl ?_
  refine ow_aloadN C X7 d13_6 rfl rfl (pc' := 7) rfl ?_
  refine ow_getF C X7 e7 (hw _ (List.mem_of_getElem? (i := 47) rfl)) S1.f11 d13_7 (pc' := 10) rfl (fun T8 X8 e8 => ?_)
  refine ow_arraylength C X8 e8 S1.w11 (z := (256 : Int32)) (by decide) d13_10 (pc' := 11) rfl ?_
  refine ow_icmp_le C X8 d13_11 (pcT := 41) (pc' := 14) (by decide) (by decide) rfl (fun _ => ?_) (fun bq => absurd bq (by decide))
  refine ow_aloadN C X8 d13_41 rfl rfl (pc' := 42) rfl ?_
  refine ow_iloadN C X8 d13_42 rfl (pc' := 43) rfl ?_
  refine ow_aloadN C X8 d13_43 rfl rfl (pc' := 44) rfl ?_
  refine ow_getF C X8 e8 (hw _ (List.mem_of_getElem? (i := 47) rfl)) S1.f11 d13_44 (pc' := 47) rfl (fun T9 X9 e9 => ?_)
  refine ow_aloadN C X9 d13_47 rfl rfl (pc' := 48) rfl ?_
  refine ow_getF C X9 e9 (hw _ (List.mem_of_getElem? (i := 122) rfl)) S1.n3 d13_48 (pc' := 51) rfl (fun T10 X10 e10 => ?_)
  refine ow_iloadN C X10 d13_51 rfl (pc' := 52) rfl ?_
  refine ow_acopy0 (zs := (256 : Int32)) (zd := (256 : Int32)) C X10 e10 (hw _ (List.mem_of_getElem? (i := 112) rfl)) (hw _ (List.mem_of_getElem? (i := 115) rfl)) (hw _ (List.mem_of_getElem? (i := 113) rfl)) (hw _ (List.mem_of_getElem? (i := 114) rfl)) S2.w11 S1.w11 (Or.inl ⟨rfl, rfl⟩) (fun _ _ => rfl) (fun _ _ => rfl) (by decide) (by decide) (by decide) (by decide) (by decide) (by decide) (by decide) (by decide) (Fr.nil n0) (G.al 11 (by decide)).1 rfl d13_52 (Nat.le_of_ble_eq_true rfl) (Nat.le_of_ble_eq_true rfl) (pc' := 55) rfl (fun T11 h11 L11 X11 e11 N11 Kc11 Ac11 => ?_)
  have S11_o := OwS.set11 (hw _ (List.mem_of_getElem? (i := 6) rfl)) S1 G.inj Kc11 Ac11
  have S11_q := G.kq S2 (G.al 11 (by decide)).2.1 Kc11
  refine ow_aloadN C X11 d13_55 rfl rfl (pc' := 56) rfl ?_
  refine ow_dup C X11 d13_56 rfl (pc' := 57) rfl ?_
  refine ow_getF C X11 e11 (hw _ (List.mem_of_getElem? (i := 122) rfl)) S11_o.n3 d13_57 (pc' := 60) rfl (fun T12 X12 e12 => ?_)
  refine ow_iloadN C X12 d13_60 rfl (pc' := 61) rfl ?_
  refine ow_iadd C X12 d13_61 (pc' := 62) rfl ?_
  refine ow_putF C X12 e12 (hw _ (List.mem_of_getElem? (i := 122) rfl)) S11_o.n3 S11_o.E (Or.inl (hw _ (List.mem_of_getElem? (i := 123) rfl))) (hw _ (List.mem_of_getElem? (i := 6) rfl)) (ty := .int) (by decide) rfl rfl d13_62 (pc' := 65) rfl (fun T13 h13 X13 e13 W13 => ?_)
  have S13_o := OwS.put3 hw S11_o W13 (by decide)
  have S13_q := G.kq S11_q G.ol (Keep.of_wr W13)
  have N13 := Fr.snoc X13 N11 G.lo
  refine ow_retV C X13 d13_65 (Nat.le_of_ble_eq_true rfl) (Nat.le_of_ble_eq_true rfl) ?_
  rw [e13]
  exact ⟨rfl, N13, S13_o, S13_q⟩
theorem d14_0 : decode prog_63_method_22_code 0 = .ok (.aload_n 0, 1) := by decide +kernel
theorem d14_1 : decode prog_63_method_22_code 1 = .ok (.getfield 34, 3) := by decide +kernel
theorem d14_4 : decode prog_63_method_22_code 4 = .ok (.iload_n 1, 1) := by decide +kernel
theorem d14_5 : decode prog_63_method_22_code 5 = .ok (.aload_n 2, 1) := by decide +kernel
theorem d14_6 : decode prog_63_method_22_code 6 = .ok (.ifnull 7, 3) := by decide +kernel
theorem d14_9 : decode prog_63_method_22_code 9 = .ok (.iconst 1, 1) := by decide +kernel
theorem d14_10 : decode prog_63_method_22_code 10 = .ok (.goto 4, 3) := by decide +kernel
theorem d14_13 : decode prog_63_method_22_code 13 = .ok (.iconst 0, 1) := by decide +kernel
theorem d14_14 : decode prog_63_method_22_code 14 = .ok (.bastore, 1) := by decide +kernel
theorem d14_15 : decode prog_63_method_22_code 15 = .ok (.aload_n 2, 1) := by decide +kernel
theorem d14_16 : decode prog_63_method_22_code 16 = .ok (.ifnull 35, 3) := by decide +kernel
theorem d14_19 : decode prog_63_method_22_code 19 = .ok (.aload_n 0, 1) := by decide +kernel
theorem d14_20 : decode prog_63_method_22_code 20 = .ok (.getfield 30, 3) := by decide +kernel
theorem d14_23 : decode prog_63_method_22_code 23 = .ok (.iload_n 1, 1) := by decide +kernel
theorem d14_24 : decode prog_63_method_22_code 24 = .ok (.aaload, 1) := by decide +kernel
theorem d14_25 : decode prog_63_method_22_code 25 = .ok (.ifnonnull 16, 3) := by decide +kernel
theorem d14_28 : decode prog_63_method_22_code 28 = .ok (.aload_n 0, 1) := by decide +kernel
theorem d14_29 : decode prog_63_method_22_code 29 = .ok (.getfield 30, 3) := by decide +kernel
theorem d14_32 : decode prog_63_method_22_code 32 = .ok (.iload_n 1, 1) := by decide +kernel
theorem d14_33 : decode prog_63_method_22_code 33 = .ok (.new 28, 3) := by decide +kernel
theorem d14_36 : decode prog_63_method_22_code 36 = .ok (.dup, 1) := by decide +kernel
theorem d14_37 : decode prog_63_method_22_code 37 = .ok (.invokespecial 220, 3) := by decide +kernel
theorem d14_40 : decode prog_63_method_22_code 40 = .ok (.aastore, 1) := by decide +kernel
theorem d14_41 : decode prog_63_method_22_code 41 = .ok (.aload_n 0, 1) := by decide +kernel
theorem d14_42 : decode prog_63_method_22_code 42 = .ok (.getfield 30, 3) := by decide +kernel
theorem d14_45 : decode prog_63_method_22_code 45 = .ok (.iload_n 1, 1) := by decide +kernel
theorem d14_46 : decode prog_63_method_22_code 46 = .ok (.aaload, 1) := by decide +kernel
theorem d14_47 : decode prog_63_method_22_code 47 = .ok (.aload_n 2, 1) := by decide +kernel
theorem d14_48 : decode prog_63_method_22_code 48 = .ok (.invokevirtual 221, 3) := by decide +kernel
theorem d14_51 : decode prog_63_method_22_code 51 = .ok (.return_, 1) := by decide +kernel
theorem pn_14 : plainFor (⟨"com/example/narrow_view/narrowview/StartTags", "keepDefaults", "(ILcom/example/narrow_view/narrowview/TagDefaults;)V"⟩ : MethodName) = true := by first | exact plainFor_of_name (by first | (simp [plainName, overriddenIn]; done) | decide +kernel) | decide +kernel
theorem pd_2 : parseMethodDescriptor "(ILcom/example/narrow_view/narrowview/TagDefaults;)V" = some ⟨[.int, (.object "com/example/narrow_view/narrowview/TagDefaults")], none⟩ := by decide +kernel
set_option maxRecDepth 65536 in
set_option maxHeartbeats 40000000 in
theorem rm_kpd (l : Launch) (Z : State) (a0 : Array Value) (hw : ∀ d ∈ tables_1, d.before a0 Z = true) (o q : Addr) (k : Int32) (ad bd : Nat → Addr) (h0 : Heap) (n0 N : Nat) (S1 : OwS Z h0 o k ad) (S2 : OwS Z h0 q 0 bd) (G : OwG n0 N o q ad bd) (z : Int32) (hk : OwSm z) :
    OwCon l (⟨"com/example/narrow_view/narrowview/StartTags", "keepDefaults", "(ILcom/example/narrow_view/narrowview/TagDefaults;)V"⟩ : MethodName) prog_63_method_22_code 3 none ({ frames := 0, cells := 0, slots := 0, locals := 0 } : Room) Z #[(.ref o), (.int z), .null] h0 (fun v h L => v = none ∧ Fr n0 L ∧ OwS Z h o k ad ∧ OwS Z h q 0 bd) := by
  refine OwCon.of pn_14 (Ls := #[.val (.ref o), .val (.int z), .val .null]) (fun m => by first | (simp [entryFrame, mkF, argsToLocals, Value.category]; done) | rfl) ?_
  intro p e s m below meth c s₁ C X0 e0
  refine ow_aloadN C X0 d14_0 rfl rfl (pc' := 1) rfl ?_
  refine ow_getF C X0 e0 (hw _ (List.mem_of_getElem? (i := 32) rfl)) S1.f5 d14_1 (pc' := 4) rfl (fun T14 X14 e14 => ?_)
  refine ow_iloadN C X14 d14_4 rfl (pc' := 5) rfl ?_
  refine ow_aloadN C X14 d14_5 rfl rfl (pc' := 6) rfl ?_
  refine ow_ifnull_n C X14 d14_6 (pcT := 13) (by decide) (by decide) ?_
  refine ow_iconst (0 : Int32) C X14 d14_13 (by decide) (pc' := 14) rfl ?_
  refine ow_bastoreZ (i := z.toNatClampNeg) C X14 e14 S1.w5 hk.n0 rfl hk.n16 d14_14 (pc' := 15) rfl (fun T15 h15 X15 e15 W15 => ?_)
  have S15_o := OwS.set5 (hw _ (List.mem_of_getElem? (i := 6) rfl)) S1 G.inj (Keep.of_wr W15) ((S1.w5.set W15).congr (fun j _ => by (try dsimp only); split <;> rfl))
  have S15_q := G.kq S2 (G.al 5 (by decide)).2.1 (Keep.of_wr W15)
  have N15 := Fr.snoc X15 (Fr.nil n0) (G.al 5 (by decide)).1
  refine ow_aloadN C X15 d14_15 rfl rfl (pc' := 16) rfl ?_
  refine ow_ifnull_n C X15 d14_16 (pcT := 51) (by decide) (by decide) ?_
  refine ow_retV C X15 d14_51 (Nat.le_of_ble_eq_true rfl) (Nat.le_of_ble_eq_true rfl) ?_
  rw [e15]
  exact ⟨rfl, N15, S15_o, S15_q⟩
theorem d10_0 : decode prog_63_method_3_code 0 = .ok (.aload_n 0, 1) := by decide +kernel
theorem d10_1 : decode prog_63_method_3_code 1 = .ok (.getfield 92, 3) := by decide +kernel
theorem d10_4 : decode prog_63_method_3_code 4 = .ok (.aload_n 0, 1) := by decide +kernel
theorem d10_5 : decode prog_63_method_3_code 5 = .ok (.getfield 9, 3) := by decide +kernel
theorem d10_8 : decode prog_63_method_3_code 8 = .ok (.arraylength, 1) := by decide +kernel
theorem d10_9 : decode prog_63_method_3_code 9 = .ok (.if_icmp .ne 7, 3) := by decide +kernel
theorem d10_12 : decode prog_63_method_3_code 12 = .ok (.aload_n 0, 1) := by decide +kernel
theorem d10_13 : decode prog_63_method_3_code 13 = .ok (.invokevirtual 95, 3) := by decide +kernel
theorem d10_16 : decode prog_63_method_3_code 16 = .ok (.aload_n 0, 1) := by decide +kernel
theorem d10_17 : decode prog_63_method_3_code 17 = .ok (.dup, 1) := by decide +kernel
theorem d10_18 : decode prog_63_method_3_code 18 = .ok (.getfield 92, 3) := by decide +kernel
theorem d10_21 : decode prog_63_method_3_code 21 = .ok (.dup_x1, 1) := by decide +kernel
theorem d10_22 : decode prog_63_method_3_code 22 = .ok (.iconst 1, 1) := by decide +kernel
theorem d10_23 : decode prog_63_method_3_code 23 = .ok (.iadd, 1) := by decide +kernel
theorem d10_24 : decode prog_63_method_3_code 24 = .ok (.putfield 92, 3) := by decide +kernel
theorem d10_27 : decode prog_63_method_3_code 27 = .ok (.istore_n 3, 1) := by decide +kernel
theorem d10_28 : decode prog_63_method_3_code 28 = .ok (.aload_n 0, 1) := by decide +kernel
theorem d10_29 : decode prog_63_method_3_code 29 = .ok (.getfield 9, 3) := by decide +kernel
theorem d10_32 : decode prog_63_method_3_code 32 = .ok (.iload_n 3, 1) := by decide +kernel
theorem d10_33 : decode prog_63_method_3_code 33 = .ok (.aload_n 1, 1) := by decide +kernel
theorem d10_34 : decode prog_63_method_3_code 34 = .ok (.getfield 9, 3) := by decide +kernel
theorem d10_37 : decode prog_63_method_3_code 37 = .ok (.iload_n 2, 1) := by decide +kernel
theorem d10_38 : decode prog_63_method_3_code 38 = .ok (.aaload, 1) := by decide +kernel
theorem d10_39 : decode prog_63_method_3_code 39 = .ok (.aastore, 1) := by decide +kernel
theorem d10_40 : decode prog_63_method_3_code 40 = .ok (.aload_n 0, 1) := by decide +kernel
theorem d10_41 : decode prog_63_method_3_code 41 = .ok (.getfield 15, 3) := by decide +kernel
theorem d10_44 : decode prog_63_method_3_code 44 = .ok (.iload_n 3, 1) := by decide +kernel
theorem d10_45 : decode prog_63_method_3_code 45 = .ok (.aload_n 1, 1) := by decide +kernel
theorem d10_46 : decode prog_63_method_3_code 46 = .ok (.getfield 15, 3) := by decide +kernel
theorem d10_49 : decode prog_63_method_3_code 49 = .ok (.iload_n 2, 1) := by decide +kernel
theorem d10_50 : decode prog_63_method_3_code 50 = .ok (.aaload, 1) := by decide +kernel
theorem d10_51 : decode prog_63_method_3_code 51 = .ok (.aastore, 1) := by decide +kernel
theorem d10_52 : decode prog_63_method_3_code 52 = .ok (.aload_n 0, 1) := by decide +kernel
theorem d10_53 : decode prog_63_method_3_code 53 = .ok (.getfield 18, 3) := by decide +kernel
theorem d10_56 : decode prog_63_method_3_code 56 = .ok (.iload_n 3, 1) := by decide +kernel
theorem d10_57 : decode prog_63_method_3_code 57 = .ok (.aload_n 1, 1) := by decide +kernel
theorem d10_58 : decode prog_63_method_3_code 58 = .ok (.getfield 18, 3) := by decide +kernel
theorem d10_61 : decode prog_63_method_3_code 61 = .ok (.iload_n 2, 1) := by decide +kernel
theorem d10_62 : decode prog_63_method_3_code 62 = .ok (.aaload, 1) := by decide +kernel
theorem d10_63 : decode prog_63_method_3_code 63 = .ok (.aastore, 1) := by decide +kernel
theorem d10_64 : decode prog_63_method_3_code 64 = .ok (.aload_n 0, 1) := by decide +kernel
theorem d10_65 : decode prog_63_method_3_code 65 = .ok (.getfield 21, 3) := by decide +kernel
theorem d10_68 : decode prog_63_method_3_code 68 = .ok (.iload_n 3, 1) := by decide +kernel
theorem d10_69 : decode prog_63_method_3_code 69 = .ok (.aload_n 0, 1) := by decide +kernel
theorem d10_70 : decode prog_63_method_3_code 70 = .ok (.getfield 114, 3) := by decide +kernel
theorem d10_73 : decode prog_63_method_3_code 73 = .ok (.iastore, 1) := by decide +kernel
theorem d10_74 : decode prog_63_method_3_code 74 = .ok (.aload_n 1, 1) := by decide +kernel
theorem d10_75 : decode prog_63_method_3_code 75 = .ok (.iload_n 2, 1) := by decide +kernel
theorem d10_76 : decode prog_63_method_3_code 76 = .ok (.invokevirtual 174, 3) := by decide +kernel
theorem d10_79 : decode prog_63_method_3_code 79 = .ok (.istore 4, 2) := by decide +kernel
theorem d10_81 : decode prog_63_method_3_code 81 = .ok (.aload_n 0, 1) := by decide +kernel
theorem d10_82 : decode prog_63_method_3_code 82 = .ok (.getfield 114, 3) := by decide +kernel
theorem d10_85 : decode prog_63_method_3_code 85 = .ok (.iload 4, 2) := by decide +kernel
theorem d10_87 : decode prog_63_method_3_code 87 = .ok (.iadd, 1) := by decide +kernel
theorem d10_88 : decode prog_63_method_3_code 88 = .ok (.aload_n 0, 1) := by decide +kernel
theorem d10_89 : decode prog_63_method_3_code 89 = .ok (.getfield 38, 3) := by decide +kernel
theorem d10_92 : decode prog_63_method_3_code 92 = .ok (.arraylength, 1) := by decide +kernel
theorem d10_93 : decode prog_63_method_3_code 93 = .ok (.if_icmp .le 14, 3) := by decide +kernel
theorem d10_96 : decode prog_63_method_3_code 96 = .ok (.aload_n 0, 1) := by decide +kernel
theorem d10_97 : decode prog_63_method_3_code 97 = .ok (.aload_n 0, 1) := by decide +kernel
theorem d10_98 : decode prog_63_method_3_code 98 = .ok (.getfield 114, 3) := by decide +kernel
theorem d10_101 : decode prog_63_method_3_code 101 = .ok (.iload 4, 2) := by decide +kernel
theorem d10_103 : decode prog_63_method_3_code 103 = .ok (.iadd, 1) := by decide +kernel
theorem d10_104 : decode prog_63_method_3_code 104 = .ok (.invokevirtual 121, 3) := by decide +kernel
theorem d10_107 : decode prog_63_method_3_code 107 = .ok (.aload_n 1, 1) := by decide +kernel
theorem d10_108 : decode prog_63_method_3_code 108 = .ok (.getfield 38, 3) := by decide +kernel
theorem d10_111 : decode prog_63_method_3_code 111 = .ok (.aload_n 1, 1) := by decide +kernel
theorem d10_112 : decode prog_63_method_3_code 112 = .ok (.getfield 21, 3) := by decide +kernel
theorem d10_115 : decode prog_63_method_3_code 115 = .ok (.iload_n 2, 1) := by decide +kernel
theorem d10_116 : decode prog_63_method_3_code 116 = .ok (.iaload, 1) := by decide +kernel
theorem d10_117 : decode prog_63_method_3_code 117 = .ok (.aload_n 0, 1) := by decide +kernel
theorem d10_118 : decode prog_63_method_3_code 118 = .ok (.getfield 38, 3) := by decide +kernel
theorem d10_121 : decode prog_63_method_3_code 121 = .ok (.aload_n 0, 1) := by decide +kernel
theorem d10_122 : decode prog_63_method_3_code 122 = .ok (.getfield 114, 3) := by decide +kernel
theorem d10_125 : decode prog_63_method_3_code 125 = .ok (.iload 4, 2) := by decide +kernel
theorem d10_127 : decode prog_63_method_3_code 127 = .ok (.invokestatic 177, 3) := by decide +kernel
theorem d10_130 : decode prog_63_method_3_code 130 = .ok (.aload_n 1, 1) := by decide +kernel
theorem d10_131 : decode prog_63_method_3_code 131 = .ok (.getfield 41, 3) := by decide +kernel
theorem d10_134 : decode prog_63_method_3_code 134 = .ok (.aload_n 1, 1) := by decide +kernel
theorem d10_135 : decode prog_63_method_3_code 135 = .ok (.getfield 21, 3) := by decide +kernel
theorem d10_138 : decode prog_63_method_3_code 138 = .ok (.iload_n 2, 1) := by decide +kernel
theorem d10_139 : decode prog_63_method_3_code 139 = .ok (.iaload, 1) := by decide +kernel
theorem d10_140 : decode prog_63_method_3_code 140 = .ok (.aload_n 0, 1) := by decide +kernel
theorem d10_141 : decode prog_63_method_3_code 141 = .ok (.getfield 41, 3) := by decide +kernel
theorem d10_144 : decode prog_63_method_3_code 144 = .ok (.aload_n 0, 1) := by decide +kernel
theorem d10_145 : decode prog_63_method_3_code 145 = .ok (.getfield 114, 3) := by decide +kernel
theorem d10_148 : decode prog_63_method_3_code 148 = .ok (.iload 4, 2) := by decide +kernel
theorem d10_150 : decode prog_63_method_3_code 150 = .ok (.invokestatic 177, 3) := by decide +kernel
theorem d10_153 : decode prog_63_method_3_code 153 = .ok (.aload_n 0, 1) := by decide +kernel
theorem d10_154 : decode prog_63_method_3_code 154 = .ok (.dup, 1) := by decide +kernel
theorem d10_155 : decode prog_63_method_3_code 155 = .ok (.getfield 114, 3) := by decide +kernel
theorem d10_158 : decode prog_63_method_3_code 158 = .ok (.iload 4, 2) := by decide +kernel
theorem d10_160 : decode prog_63_method_3_code 160 = .ok (.iadd, 1) := by decide +kernel
theorem d10_161 : decode prog_63_method_3_code 161 = .ok (.putfield 114, 3) := by decide +kernel
theorem d10_164 : decode prog_63_method_3_code 164 = .ok (.aload_n 0, 1) := by decide +kernel
theorem d10_165 : decode prog_63_method_3_code 165 = .ok (.getfield 25, 3) := by decide +kernel
theorem d10_168 : decode prog_63_method_3_code 168 = .ok (.iload_n 3, 1) := by decide +kernel
theorem d10_169 : decode prog_63_method_3_code 169 = .ok (.aload_n 0, 1) := by decide +kernel
theorem d10_170 : decode prog_63_method_3_code 170 = .ok (.getfield 131, 3) := by decide +kernel
theorem d10_173 : decode prog_63_method_3_code 173 = .ok (.iastore, 1) := by decide +kernel
theorem d10_174 : decode prog_63_method_3_code 174 = .ok (.aload_n 1, 1) := by decide +kernel
theorem d10_175 : decode prog_63_method_3_code 175 = .ok (.iload_n 2, 1) := by decide +kernel
theorem d10_176 : decode prog_63_method_3_code 176 = .ok (.invokevirtual 183, 3) := by decide +kernel
theorem d10_179 : decode prog_63_method_3_code 179 = .ok (.istore 5, 2) := by decide +kernel
theorem d10_181 : decode prog_63_method_3_code 181 = .ok (.aload_n 0, 1) := by decide +kernel
theorem d10_182 : decode prog_63_method_3_code 182 = .ok (.getfield 131, 3) := by decide +kernel
theorem d10_185 : decode prog_63_method_3_code 185 = .ok (.iload 5, 2) := by decide +kernel
theorem d10_187 : decode prog_63_method_3_code 187 = .ok (.iadd, 1) := by decide +kernel
theorem d10_188 : decode prog_63_method_3_code 188 = .ok (.aload_n 0, 1) := by decide +kernel
theorem d10_189 : decode prog_63_method_3_code 189 = .ok (.getfield 47, 3) := by decide +kernel
theorem d10_192 : decode prog_63_method_3_code 192 = .ok (.arraylength, 1) := by decide +kernel
theorem d10_193 : decode prog_63_method_3_code 193 = .ok (.if_icmp .le 14, 3) := by decide +kernel
theorem d10_196 : decode prog_63_method_3_code 196 = .ok (.aload_n 0, 1) := by decide +kernel
theorem d10_197 : decode prog_63_method_3_code 197 = .ok (.aload_n 0, 1) := by decide +kernel
theorem d10_198 : decode prog_63_method_3_code 198 = .ok (.getfield 131, 3) := by decide +kernel
theorem d10_201 : decode prog_63_method_3_code 201 = .ok (.iload 5, 2) := by decide +kernel
theorem d10_203 : decode prog_63_method_3_code 203 = .ok (.iadd, 1) := by decide +kernel
theorem d10_204 : decode prog_63_method_3_code 204 = .ok (.invokevirtual 137, 3) := by decide +kernel
theorem d10_207 : decode prog_63_method_3_code 207 = .ok (.aload_n 1, 1) := by decide +kernel
theorem d10_208 : decode prog_63_method_3_code 208 = .ok (.getfield 25, 3) := by decide +kernel
theorem d10_211 : decode prog_63_method_3_code 211 = .ok (.iload_n 2, 1) := by decide +kernel
theorem d10_212 : decode prog_63_method_3_code 212 = .ok (.iaload, 1) := by decide +kernel
theorem d10_213 : decode prog_63_method_3_code 213 = .ok (.istore 6, 2) := by decide +kernel
theorem d10_215 : decode prog_63_method_3_code 215 = .ok (.aload_n 1, 1) := by decide +kernel
theorem d10_216 : decode prog_63_method_3_code 216 = .ok (.getfield 44, 3) := by decide +kernel
theorem d10_219 : decode prog_63_method_3_code 219 = .ok (.iload 6, 2) := by decide +kernel
theorem d10_221 : decode prog_63_method_3_code 221 = .ok (.aload_n 0, 1) := by decide +kernel
theorem d10_222 : decode prog_63_method_3_code 222 = .ok (.getfield 44, 3) := by decide +kernel
theorem d10_225 : decode prog_63_method_3_code 225 = .ok (.aload_n 0, 1) := by decide +kernel
theorem d10_226 : decode prog_63_method_3_code 226 = .ok (.getfield 131, 3) := by decide +kernel
theorem d10_229 : decode prog_63_method_3_code 229 = .ok (.iload 5, 2) := by decide +kernel
theorem d10_231 : decode prog_63_method_3_code 231 = .ok (.invokestatic 177, 3) := by decide +kernel
theorem d10_234 : decode prog_63_method_3_code 234 = .ok (.aload_n 1, 1) := by decide +kernel
theorem d10_235 : decode prog_63_method_3_code 235 = .ok (.getfield 47, 3) := by decide +kernel
theorem d10_238 : decode prog_63_method_3_code 238 = .ok (.iload 6, 2) := by decide +kernel
theorem d10_240 : decode prog_63_method_3_code 240 = .ok (.aload_n 0, 1) := by decide +kernel
theorem d10_241 : decode prog_63_method_3_code 241 = .ok (.getfield 47, 3) := by decide +kernel
theorem d10_244 : decode prog_63_method_3_code 244 = .ok (.aload_n 0, 1) := by decide +kernel
theorem d10_245 : decode prog_63_method_3_code 245 = .ok (.getfield 131, 3) := by decide +kernel
theorem d10_248 : decode prog_63_method_3_code 248 = .ok (.iload 5, 2) := by decide +kernel
theorem d10_250 : decode prog_63_method_3_code 250 = .ok (.invokestatic 177, 3) := by decide +kernel
theorem d10_253 : decode prog_63_method_3_code 253 = .ok (.aload_n 1, 1) := by decide +kernel
theorem d10_254 : decode prog_63_method_3_code 254 = .ok (.getfield 50, 3) := by decide +kernel
theorem d10_257 : decode prog_63_method_3_code 257 = .ok (.iload 6, 2) := by decide +kernel
theorem d10_259 : decode prog_63_method_3_code 259 = .ok (.aload_n 0, 1) := by decide +kernel
theorem d10_260 : decode prog_63_method_3_code 260 = .ok (.getfield 50, 3) := by decide +kernel
theorem d10_263 : decode prog_63_method_3_code 263 = .ok (.aload_n 0, 1) := by decide +kernel
theorem d10_264 : decode prog_63_method_3_code 264 = .ok (.getfield 131, 3) := by decide +kernel
theorem d10_267 : decode prog_63_method_3_code 267 = .ok (.iload 5, 2) := by decide +kernel
theorem d10_269 : decode prog_63_method_3_code 269 = .ok (.invokestatic 177, 3) := by decide +kernel
theorem d10_272 : decode prog_63_method_3_code 272 = .ok (.iload 6, 2) := by decide +kernel
theorem d10_274 : decode prog_63_method_3_code 274 = .ok (.ifCond .ne 7, 3) := by decide +kernel
theorem d10_277 : decode prog_63_method_3_code 277 = .ok (.iconst 0, 1) := by decide +kernel
theorem d10_278 : decode prog_63_method_3_code 278 = .ok (.goto 12, 3) := by decide +kernel
theorem d10_281 : decode prog_63_method_3_code 281 = .ok (.aload_n 1, 1) := by decide +kernel
theorem d10_282 : decode prog_63_method_3_code 282 = .ok (.getfield 53, 3) := by decide +kernel
theorem d10_285 : decode prog_63_method_3_code 285 = .ok (.iload 6, 2) := by decide +kernel
theorem d10_287 : decode prog_63_method_3_code 287 = .ok (.iconst 1, 1) := by decide +kernel
theorem d10_288 : decode prog_63_method_3_code 288 = .ok (.isub, 1) := by decide +kernel
theorem d10_289 : decode prog_63_method_3_code 289 = .ok (.iaload, 1) := by decide +kernel
theorem d10_290 : decode prog_63_method_3_code 290 = .ok (.istore 7, 2) := by decide +kernel
theorem d10_292 : decode prog_63_method_3_code 292 = .ok (.aload_n 0, 1) := by decide +kernel
theorem d10_293 : decode prog_63_method_3_code 293 = .ok (.getfield 164, 3) := by decide +kernel
theorem d10_296 : decode prog_63_method_3_code 296 = .ok (.iload 7, 2) := by decide +kernel
theorem d10_298 : decode prog_63_method_3_code 298 = .ok (.isub, 1) := by decide +kernel
theorem d10_299 : decode prog_63_method_3_code 299 = .ok (.istore 8, 2) := by decide +kernel
theorem d10_301 : decode prog_63_method_3_code 301 = .ok (.aload_n 0, 1) := by decide +kernel
theorem d10_302 : decode prog_63_method_3_code 302 = .ok (.aload_n 1, 1) := by decide +kernel
theorem d10_303 : decode prog_63_method_3_code 303 = .ok (.getfield 56, 3) := by decide +kernel
theorem d10_306 : decode prog_63_method_3_code 306 = .ok (.iload 7, 2) := by decide +kernel
theorem d10_308 : decode prog_63_method_3_code 308 = .ok (.iload 5, 2) := by decide +kernel
theorem d10_310 : decode prog_63_method_3_code 310 = .ok (.ifCond .ne 7, 3) := by decide +kernel
theorem d10_313 : decode prog_63_method_3_code 313 = .ok (.iconst 0, 1) := by decide +kernel
theorem d10_314 : decode prog_63_method_3_code 314 = .ok (.goto 18, 3) := by decide +kernel
theorem d10_317 : decode prog_63_method_3_code 317 = .ok (.aload_n 1, 1) := by decide +kernel
theorem d10_318 : decode prog_63_method_3_code 318 = .ok (.getfield 53, 3) := by decide +kernel
theorem d10_321 : decode prog_63_method_3_code 321 = .ok (.iload 6, 2) := by decide +kernel
theorem d10_323 : decode prog_63_method_3_code 323 = .ok (.iload 5, 2) := by decide +kernel
theorem d10_325 : decode prog_63_method_3_code 325 = .ok (.iadd, 1) := by decide +kernel
theorem d10_326 : decode prog_63_method_3_code 326 = .ok (.iconst 1, 1) := by decide +kernel
theorem d10_327 : decode prog_63_method_3_code 327 = .ok (.isub, 1) := by decide +kernel
theorem d10_328 : decode prog_63_method_3_code 328 = .ok (.iaload, 1) := by decide +kernel
theorem d10_329 : decode prog_63_method_3_code 329 = .ok (.iload 7, 2) := by decide +kernel
theorem d10_331 : decode prog_63_method_3_code 331 = .ok (.isub, 1) := by decide +kernel
theorem d10_332 : decode prog_63_method_3_code 332 = .ok (.invokevirtual 151, 3) := by decide +kernel
theorem d10_335 : decode prog_63_method_3_code 335 = .ok (.iconst 0, 1) := by decide +kernel
theorem d10_336 : decode prog_63_method_3_code 336 = .ok (.istore 9, 2) := by decide +kernel
theorem d10_338 : decode prog_63_method_3_code 338 = .ok (.iload 9, 2) := by decide +kernel
theorem d10_340 : decode prog_63_method_3_code 340 = .ok (.iload 5, 2) := by decide +kernel
theorem d10_342 : decode prog_63_method_3_code 342 = .ok (.if_icmp .ge 34, 3) := by decide +kernel
theorem d10_345 : decode prog_63_method_3_code 345 = .ok (.aload_n 0, 1) := by decide +kernel
theorem d10_346 : decode prog_63_method_3_code 346 = .ok (.getfield 53, 3) := by decide +kernel
theorem d10_349 : decode prog_63_method_3_code 349 = .ok (.aload_n 0, 1) := by decide +kernel
theorem d10_350 : decode prog_63_method_3_code 350 = .ok (.getfield 131, 3) := by decide +kernel
theorem d10_353 : decode prog_63_method_3_code 353 = .ok (.iload 9, 2) := by decide +kernel
theorem d10_355 : decode prog_63_method_3_code 355 = .ok (.iadd, 1) := by decide +kernel
theorem d10_356 : decode prog_63_method_3_code 356 = .ok (.aload_n 1, 1) := by decide +kernel
theorem d10_357 : decode prog_63_method_3_code 357 = .ok (.getfield 53, 3) := by decide +kernel
theorem d10_360 : decode prog_63_method_3_code 360 = .ok (.iload 6, 2) := by decide +kernel
theorem d10_362 : decode prog_63_method_3_code 362 = .ok (.iload 9, 2) := by decide +kernel
theorem d10_364 : decode prog_63_method_3_code 364 = .ok (.iadd, 1) := by decide +kernel
theorem d10_365 : decode prog_63_method_3_code 365 = .ok (.iaload, 1) := by decide +kernel
theorem d10_366 : decode prog_63_method_3_code 366 = .ok (.iload 8, 2) := by decide +kernel
theorem d10_368 : decode prog_63_method_3_code 368 = .ok (.iadd, 1) := by decide +kernel
theorem d10_369 : decode prog_63_method_3_code 369 = .ok (.iastore, 1) := by decide +kernel
theorem d10_370 : decode prog_63_method_3_code 370 = .ok (.iinc 9 1, 3) := by decide +kernel
theorem d10_373 : decode prog_63_method_3_code 373 = .ok (.goto (-35), 3) := by decide +kernel
theorem d10_376 : decode prog_63_method_3_code 376 = .ok (.aload_n 0, 1) := by decide +kernel
theorem d10_377 : decode prog_63_method_3_code 377 = .ok (.dup, 1) := by decide +kernel
theorem d10_378 : decode prog_63_method_3_code 378 = .ok (.getfield 131, 3) := by decide +kernel
theorem d10_381 : decode prog_63_method_3_code 381 = .ok (.iload 5, 2) := by decide +kernel
theorem d10_383 : decode prog_63_method_3_code 383 = .ok (.iadd, 1) := by decide +kernel
theorem d10_384 : decode prog_63_method_3_code 384 = .ok (.putfield 131, 3) := by decide +kernel
theorem d10_387 : decode prog_63_method_3_code 387 = .ok (.aload_n 0, 1) := by decide +kernel
theorem d10_388 : decode prog_63_method_3_code 388 = .ok (.iload_n 3, 1) := by decide +kernel
theorem d10_389 : decode prog_63_method_3_code 389 = .ok (.aload_n 1, 1) := by decide +kernel
theorem d10_390 : decode prog_63_method_3_code 390 = .ok (.getfield 34, 3) := by decide +kernel
theorem d10_393 : decode prog_63_method_3_code 393 = .ok (.iload_n 2, 1) := by decide +kernel
theorem d10_394 : decode prog_63_method_3_code 394 = .ok (.baload, 1) := by decide +kernel
theorem d10_395 : decode prog_63_method_3_code 395 = .ok (.ifCond .eq 12, 3) := by decide +kernel
theorem d10_398 : decode prog_63_method_3_code 398 = .ok (.aload_n 1, 1) := by decide +kernel
theorem d10_399 : decode prog_63_method_3_code 399 = .ok (.getfield 30, 3) := by decide +kernel
theorem d10_402 : decode prog_63_method_3_code 402 = .ok (.iload_n 2, 1) := by decide +kernel
theorem d10_403 : decode prog_63_method_3_code 403 = .ok (.aaload, 1) := by decide +kernel
theorem d10_404 : decode prog_63_method_3_code 404 = .ok (.goto 4, 3) := by decide +kernel
theorem d10_407 : decode prog_63_method_3_code 407 = .ok (.aconst_null, 1) := by decide +kernel
theorem d10_408 : decode prog_63_method_3_code 408 = .ok (.invokevirtual 170, 3) := by decide +kernel
theorem d10_411 : decode prog_63_method_3_code 411 = .ok (.iload_n 3, 1) := by decide +kernel
theorem d10_412 : decode prog_63_method_3_code 412 = .ok (.ireturn, 1) := by decide +kernel
theorem pn_10 : plainFor (⟨"com/example/narrow_view/narrowview/StartTags", "add", "(Lcom/example/narrow_view/narrowview/StartTags;I)I"⟩ : MethodName) = true := by first | exact plainFor_of_name (by first | (simp [plainName, overriddenIn]; done) | decide +kernel) | decide +kernel
theorem pd_3 : parseMethodDescriptor "(Lcom/example/narrow_view/narrowview/StartTags;I)I" = some ⟨[(.object "com/example/narrow_view/narrowview/StartTags"), .int], (some .int)⟩ := by decide +kernel
set_option maxRecDepth 65536 in
set_option maxHeartbeats 40000000 in
theorem rm_add (l : Launch) (Z : State) (a0 : Array Value) (hw : ∀ d ∈ tables_1, d.before a0 Z = true) (o q : Addr) (k : Int32) (ad bd : Nat → Addr) (h0 : Heap) (n0 N : Nat) (S1 : OwS Z h0 o k ad) (S2 : OwS Z h0 q 0 bd) (G : OwG n0 N o q ad bd) (hk : OwSm k) :
    OwCon l (⟨"com/example/narrow_view/narrowview/StartTags", "add", "(Lcom/example/narrow_view/narrowview/StartTags;I)I"⟩ : MethodName) prog_63_method_3_code 10 (some .int) ({ frames := 2, cells := 0, slots := 0, locals := 45 } : Room) Z #[(.ref o), (.ref q), (.int (0 : Int32))] h0 (fun v h L => v = some (.int k) ∧ Fr n0 L ∧ OwS Z h o (k + 1) ad ∧ OwS Z h q 0 bd) := by
  refine OwCon.of pn_10 (Ls := #[.val (.ref o), .val (.ref q), .val (.int (0 : Int32)), .unset, .unset, .unset, .unset, .unset, .unset, .unset]) (fun m => by first | (simp [entryFrame, mkF, argsToLocals, Value.category]; done) | rfl) ?_
  intro p e s m below meth c s₁ C X0 e0
  refine ow_aloadN C X0 d10_0 rfl rfl (pc' := 1) rfl ?_
  refine ow_getF C X0 e0 (hw _ (List.mem_of_getElem? (i := 89) rfl)) S1.n0 d10_1 (pc' := 4) rfl (fun T16 X16 e16 => ?_)
  refine ow_aloadN C X16 d10_4 rfl rfl (pc' := 5) rfl ?_
  refine ow_getF C X16 e16 (hw _ (List.mem_of_getElem? (i := 16) rfl)) S1.f0 d10_5 (pc' := 8) rfl (fun T17 X17 e17 => ?_)
  refine ow_arraylength C X17 e17 S1.w0 (z := (16 : Int32)) (by decide) d10_8 (pc' := 9) rfl ?_
  refine ow_icmp_ne C X17 d10_9 (pcT := 16) (pc' := 12) (by decide) (by decide) rfl (fun _ => ?_) (fun bq => absurd bq hk.ne)
  refine ow_aloadN C X17 d10_16 rfl rfl (pc' := 17) rfl ?_
  refine ow_dup C X17 d10_17 rfl (pc' := 18) rfl ?_
  refine ow_getF C X17 e17 (hw _ (List.mem_of_getElem? (i := 89) rfl)) S1.n0 d10_18 (pc' := 21) rfl (fun T18 X18 e18 => ?_)
  refine ow_dupX1 C X18 d10_21 rfl rfl (pc' := 22) rfl ?_
  refine ow_iconst (1 : Int32) C X18 d10_22 (by decide) (pc' := 23) rfl ?_
  refine ow_iadd C X18 d10_23 (pc' := 24) rfl ?_
  refine ow_putF C X18 e18 (hw _ (List.mem_of_getElem? (i := 89) rfl)) S1.n0 S1.E (Or.inl (hw _ (List.mem_of_getElem? (i := 90) rfl))) (hw _ (List.mem_of_getElem? (i := 6) rfl)) (ty := .int) (by decide) rfl rfl d10_24 (pc' := 27) rfl (fun T19 h19 X19 e19 W19 => ?_)
  have S19_o := OwS.put0 hw S1 W19
  have S19_q := G.kq S2 G.ol (Keep.of_wr W19)
  have N19 := Fr.snoc X19 (Fr.nil n0) G.lo
  refine ow_istoreN C X19 d10_27 (Ls' := #[.val (.ref o), .val (.ref q), .val (.int (0 : Int32)), .val (.int k), .unset, .unset, .unset, .unset, .unset, .unset]) rfl (pc' := 28) rfl ?_
  refine ow_aloadN C X19 d10_28 rfl rfl (pc' := 29) rfl ?_
  refine ow_getF C X19 e19 (hw _ (List.mem_of_getElem? (i := 16) rfl)) S19_o.f0 d10_29 (pc' := 32) rfl (fun T20 X20 e20 => ?_)
  refine ow_iloadN C X20 d10_32 rfl (pc' := 33) rfl ?_
  refine ow_aloadN C X20 d10_33 rfl rfl (pc' := 34) rfl ?_
  refine ow_getF C X20 e20 (hw _ (List.mem_of_getElem? (i := 16) rfl)) S19_q.f0 d10_34 (pc' := 37) rfl (fun T21 X21 e21 => ?_)
  refine ow_iloadN C X21 d10_37 rfl (pc' := 38) rfl ?_
  refine ow_aaload (i := 0) C X21 e21 S19_q.w0 rfl (by decide) (by decide) (Nat.le_of_ble_eq_true rfl) (v := .null) rfl d10_38 (pc' := 39) rfl ?_
  refine ow_aastore (i := k.toNatClampNeg) C X21 e21 S19_o.w0 rfl (Or.inl rfl) hk.n0 rfl hk.n16 d10_39 (pc' := 40) rfl (fun T22 h22 X22 e22 W22 => ?_)
  have S22_o := OwS.set0 (hw _ (List.mem_of_getElem? (i := 6) rfl)) S19_o G.inj (Keep.of_wr W22) ((S19_o.w0.set W22).congr (fun j _ => by (try dsimp only); split <;> rfl))
  have S22_q := G.kq S19_q (G.al 0 (by decide)).2.1 (Keep.of_wr W22)
  have N22 := Fr.snoc X22 N19 (G.al 0 (by decide)).1
  refine ow_aloadN C X22 d10_40 rfl rfl (pc' := 41) rfl ?_
  refine ow_getF C X22 e22 (hw _ (List.mem_of_getElem? (i := 18) rfl)) S22_o.f1 d10_41 (pc' := 44) rfl (fun T23 X23 e23 => ?_)
  refine ow_iloadN C X23 d10_44 rfl (pc' := 45) rfl ?_
  refine ow_aloadN C X23 d10_45 rfl rfl (pc' := 46) rfl ?_
  refine ow_getF C X23 e23 (hw _ (List.mem_of_getElem? (i := 18) rfl)) S22_q.f1 d10_46 (pc' := 49) rfl (fun T24 X24 e24 => ?_)
  refine ow_iloadN C X24 d10_49 rfl (pc' := 50) rfl ?_
  refine ow_aaload (i := 0) C X24 e24 S22_q.w1 rfl (by decide) (by decide) (Nat.le_of_ble_eq_true rfl) (v := .null) rfl d10_50 (pc' := 51) rfl ?_
  refine ow_aastore (i := k.toNatClampNeg) C X24 e24 S22_o.w1 rfl (Or.inl rfl) hk.n0 rfl hk.n16 d10_51 (pc' := 52) rfl (fun T25 h25 X25 e25 W25 => ?_)
  have S25_o := OwS.set1 (hw _ (List.mem_of_getElem? (i := 6) rfl)) S22_o G.inj (Keep.of_wr W25) ((S22_o.w1.set W25).congr (fun j _ => by (try dsimp only); split <;> rfl))
  have S25_q := G.kq S22_q (G.al 1 (by decide)).2.1 (Keep.of_wr W25)
  have N25 := Fr.snoc X25 N22 (G.al 1 (by decide)).1
  refine ow_aloadN C X25 d10_52 rfl rfl (pc' := 53) rfl ?_
  refine ow_getF C X25 e25 (hw _ (List.mem_of_getElem? (i := 20) rfl)) S25_o.f2 d10_53 (pc' := 56) rfl (fun T26 X26 e26 => ?_)
  refine ow_iloadN C X26 d10_56 rfl (pc' := 57) rfl ?_
  refine ow_aloadN C X26 d10_57 rfl rfl (pc' := 58) rfl ?_
  refine ow_getF C X26 e26 (hw _ (List.mem_of_getElem? (i := 20) rfl)) S25_q.f2 d10_58 (pc' := 61) rfl (fun T27 X27 e27 => ?_)
  refine ow_iloadN C X27 d10_61 rfl (pc' := 62) rfl ?_
  refine ow_aaload (i := 0) C X27 e27 S25_q.w2 rfl (by decide) (by decide) (Nat.le_of_ble_eq_true rfl) (v := .null) rfl d10_62 (pc' := 63) rfl ?_
  refine ow_aastore (i := k.toNatClampNeg) C X27 e27 S25_o.w2 rfl (Or.inl rfl) hk.n0 rfl hk.n16 d10_63 (pc' := 64) rfl (fun T28 h28 X28 e28 W28 => ?_)
  have S28_o := OwS.set2 (hw _ (List.mem_of_getElem? (i := 6) rfl)) S25_o G.inj (Keep.of_wr W28) ((S25_o.w2.set W28).congr (fun j _ => by (try dsimp only); split <;> rfl))
  have S28_q := G.kq S25_q (G.al 2 (by decide)).2.1 (Keep.of_wr W28)
  have N28 := Fr.snoc X28 N25 (G.al 2 (by decide)).1
  refine ow_aloadN C X28 d10_64 rfl rfl (pc' := 65) rfl ?_
  refine ow_getF C X28 e28 (hw _ (List.mem_of_getElem? (i := 23) rfl)) S28_o.f3 d10_65 (pc' := 68) rfl (fun T29 X29 e29 => ?_)
  refine ow_iloadN C X29 d10_68 rfl (pc' := 69) rfl ?_
  refine ow_aloadN C X29 d10_69 rfl rfl (pc' := 70) rfl ?_
  refine ow_getF C X29 e29 (hw _ (List.mem_of_getElem? (i := 105) rfl)) S28_o.n1 d10_70 (pc' := 73) rfl (fun T30 X30 e30 => ?_)
  refine ow_iastore (i := k.toNatClampNeg) C X30 e30 S28_o.w3 hk.n0 rfl hk.n16 d10_73 (pc' := 74) rfl (fun T31 h31 X31 e31 W31 => ?_)
  have S31_o := OwS.set3 (hw _ (List.mem_of_getElem? (i := 6) rfl)) S28_o G.inj (Keep.of_wr W31) ((S28_o.w3.set W31).congr (fun j _ => by (try dsimp only); split <;> rfl))
  have S31_q := G.kq S28_q (G.al 3 (by decide)).2.1 (Keep.of_wr W31)
  have N31 := Fr.snoc X31 N28 (G.al 3 (by decide)).1
  refine ow_aloadN C X31 d10_74 rfl rfl (pc' := 75) rfl ?_
  refine ow_iloadN C X31 d10_75 rfl (pc' := 76) rfl ?_
  refine ow_callV C X31 e31 (hw _ (List.mem_of_getElem? (i := 107) rfl)) (hw _ (List.mem_of_getElem? (i := 108) rfl)) (hw _ (List.mem_of_getElem? (i := 110) rfl)) rfl (hw _ (List.mem_of_getElem? (i := 109) rfl)) (hw _ (List.mem_of_getElem? (i := 7) rfl)) (hw _ (List.mem_of_getElem? (i := 111) rfl)) (by decide) S31_q.E (rm_nsc l Z a0 hw q bd h31 S31_q) pd_0 rfl (argsL := [(.int (0 : Int32))]) (rest := []) rfl rfl d10_76 (Nat.le_of_ble_eq_true rfl) (Nat.le_of_ble_eq_true rfl) (Nat.le_of_ble_eq_true rfl) (Nat.le_of_ble_eq_true rfl) (pc' := 79) rfl (fun T32 v32 L32 X32 Q32 => ?_)
  obtain ⟨rfl, rfl, Hc32⟩ := Q32
  rw [List.append_nil] at X32
  show OwF p e below _ T32 (mkF m 79 #[.val (.ref o), .val (.ref q), .val (.int (0 : Int32)), .val (.int k), .unset, .unset, .unset, .unset, .unset, .unset] [(.int (0 : Int32))])
  refine ow_istore C X32 d10_79 (Ls' := #[.val (.ref o), .val (.ref q), .val (.int (0 : Int32)), .val (.int k), .val (.int (0 : Int32)), .unset, .unset, .unset, .unset, .unset]) rfl (pc' := 81) rfl ?_
  refine ow_aloadN C X32 d10_81 rfl rfl (pc' := 82) rfl ?_
  refine ow_getF C X32 Hc32 (hw _ (List.mem_of_getElem? (i := 105) rfl)) S31_o.n1 d10_82 (pc' := 85) rfl (fun T33 X33 e33 => ?_)
  refine ow_iload C X33 d10_85 rfl (pc' := 87) rfl ?_
  refine ow_iadd C X33 d10_87 (pc' := 88) rfl ?_
  refine ow_aloadN C X33 d10_88 rfl rfl (pc' := 89) rfl ?_
  refine ow_getF C X33 e33 (hw _ (List.mem_of_getElem? (i := 34) rfl)) S31_o.f6 d10_89 (pc' := 92) rfl (fun T34 X34 e34 => ?_)
  refine ow_arraylength C X34 e34 S31_o.w6 (z := (16 : Int32)) (by decide) d10_92 (pc' := 93) rfl ?_
  refine ow_icmp_le C X34 d10_93 (pcT := 107) (pc' := 96) (by decide) (by decide) rfl (fun _ => ?_) (fun bq => absurd bq (by decide))
  refine ow_aloadN C X34 d10_107 rfl rfl (pc' := 108) rfl ?_
  refine ow_getF C X34 e34 (hw _ (List.mem_of_getElem? (i := 34) rfl)) S31_q.f6 d10_108 (pc' := 111) rfl (fun T35 X35 e35 => ?_)
  refine ow_aloadN C X35 d10_111 rfl rfl (pc' := 112) rfl ?_
  refine ow_getF C X35 e35 (hw _ (List.mem_of_getElem? (i := 23) rfl)) S31_q.f3 d10_112 (pc' := 115) rfl (fun T36 X36 e36 => ?_)
  refine ow_iloadN C X36 d10_115 rfl (pc' := 116) rfl ?_
  refine ow_iaload (i := 0) C X36 e36 S31_q.w3 (by decide) (by decide) (Nat.le_of_ble_eq_true rfl) (v := (.int (0 : Int32))) rfl d10_116 (pc' := 117) rfl ?_
  refine ow_aloadN C X36 d10_117 rfl rfl (pc' := 118) rfl ?_
  refine ow_getF C X36 e36 (hw _ (List.mem_of_getElem? (i := 34) rfl)) S31_o.f6 d10_118 (pc' := 121) rfl (fun T37 X37 e37 => ?_)
  refine ow_aloadN C X37 d10_121 rfl rfl (pc' := 122) rfl ?_
  refine ow_getF C X37 e37 (hw _ (List.mem_of_getElem? (i := 105) rfl)) S31_o.n1 d10_122 (pc' := 125) rfl (fun T38 X38 e38 => ?_)
  refine ow_iload C X38 d10_125 rfl (pc' := 127) rfl ?_
  refine ow_acopy0 (zs := (16 : Int32)) (zd := (16 : Int32)) C X38 e38 (hw _ (List.mem_of_getElem? (i := 112) rfl)) (hw _ (List.mem_of_getElem? (i := 115) rfl)) (hw _ (List.mem_of_getElem? (i := 113) rfl)) (hw _ (List.mem_of_getElem? (i := 114) rfl)) S31_q.w6 S31_o.w6 (Or.inr ⟨rfl, rfl⟩) (fun _ _ => rfl) (fun _ _ => rfl) (by decide) (by decide) (by decide) (by decide) (by decide) (by decide) (by decide) (by decide) N31 (G.al 6 (by decide)).1 rfl d10_127 (Nat.le_of_ble_eq_true rfl) (Nat.le_of_ble_eq_true rfl) (pc' := 130) rfl (fun T39 h39 L39 X39 e39 N39 Kc39 Ac39 => ?_)
  have S39_o := OwS.set6 (hw _ (List.mem_of_getElem? (i := 6) rfl)) S31_o G.inj Kc39 Ac39
  have S39_q := G.kq S31_q (G.al 6 (by decide)).2.1 Kc39
  refine ow_aloadN C X39 d10_130 rfl rfl (pc' := 131) rfl ?_
  refine ow_getF C X39 e39 (hw _ (List.mem_of_getElem? (i := 36) rfl)) S39_q.f7 d10_131 (pc' := 134) rfl (fun T40 X40 e40 => ?_)
  refine ow_aloadN C X40 d10_134 rfl rfl (pc' := 135) rfl ?_
  refine ow_getF C X40 e40 (hw _ (List.mem_of_getElem? (i := 23) rfl)) S39_q.f3 d10_135 (pc' := 138) rfl (fun T41 X41 e41 => ?_)
  refine ow_iloadN C X41 d10_138 rfl (pc' := 139) rfl ?_
  refine ow_iaload (i := 0) C X41 e41 S39_q.w3 (by decide) (by decide) (Nat.le_of_ble_eq_true rfl) (v := (.int (0 : Int32))) rfl d10_139 (pc' := 140) rfl ?_
  refine ow_aloadN C X41 d10_140 rfl rfl (pc' := 141) rfl ?_
  refine ow_getF C X41 e41 (hw _ (List.mem_of_getElem? (i := 36) rfl)) S39_o.f7 d10_141 (pc' := 144) rfl (fun T42 X42 e42 => ?_)
  refine ow_aloadN C X42 d10_144 rfl rfl (pc' := 145) rfl ?_
  refine ow_getF C X42 e42 (hw _ (List.mem_of_getElem? (i := 105) rfl)) S39_o.n1 d10_145 (pc' := 148) rfl (fun T43 X43 e43 => ?_)
  refine ow_iload C X43 d10_148 rfl (pc' := 150) rfl ?_
  refine ow_acopy0 (zs := (16 : Int32)) (zd := (16 : Int32)) C X43 e43 (hw _ (List.mem_of_getElem? (i := 112) rfl)) (hw _ (List.mem_of_getElem? (i := 115) rfl)) (hw _ (List.mem_of_getElem? (i := 113) rfl)) (hw _ (List.mem_of_getElem? (i := 114) rfl)) S39_q.w7 S39_o.w7 (Or.inr ⟨rfl, rfl⟩) (fun _ _ => rfl) (fun _ _ => rfl) (by decide) (by decide) (by decide) (by decide) (by decide) (by decide) (by decide) (by decide) N39 (G.al 7 (by decide)).1 rfl d10_150 (Nat.le_of_ble_eq_true rfl) (Nat.le_of_ble_eq_true rfl) (pc' := 153) rfl (fun T44 h44 L44 X44 e44 N44 Kc44 Ac44 => ?_)
  have S44_o := OwS.set7 (hw _ (List.mem_of_getElem? (i := 6) rfl)) S39_o G.inj Kc44 Ac44
  have S44_q := G.kq S39_q (G.al 7 (by decide)).2.1 Kc44
  refine ow_aloadN C X44 d10_153 rfl rfl (pc' := 154) rfl ?_
  refine ow_dup C X44 d10_154 rfl (pc' := 155) rfl ?_
  refine ow_getF C X44 e44 (hw _ (List.mem_of_getElem? (i := 105) rfl)) S44_o.n1 d10_155 (pc' := 158) rfl (fun T45 X45 e45 => ?_)
  refine ow_iload C X45 d10_158 rfl (pc' := 160) rfl ?_
  refine ow_iadd C X45 d10_160 (pc' := 161) rfl ?_
  refine ow_putF C X45 e45 (hw _ (List.mem_of_getElem? (i := 105) rfl)) S44_o.n1 S44_o.E (Or.inl (hw _ (List.mem_of_getElem? (i := 106) rfl))) (hw _ (List.mem_of_getElem? (i := 6) rfl)) (ty := .int) (by decide) rfl rfl d10_161 (pc' := 164) rfl (fun T46 h46 X46 e46 W46 => ?_)
  have S46_o := OwS.put1 hw S44_o W46 (by decide)
  have S46_q := G.kq S44_q G.ol (Keep.of_wr W46)
  have N46 := Fr.snoc X46 N44 G.lo
  refine ow_aloadN C X46 d10_164 rfl rfl (pc' := 165) rfl ?_
  refine ow_getF C X46 e46 (hw _ (List.mem_of_getElem? (i := 25) rfl)) S46_o.f4 d10_165 (pc' := 168) rfl (fun T47 X47 e47 => ?_)
  refine ow_iloadN C X47 d10_168 rfl (pc' := 169) rfl ?_
  refine ow_aloadN C X47 d10_169 rfl rfl (pc' := 170) rfl ?_
  refine ow_getF C X47 e47 (hw _ (List.mem_of_getElem? (i := 116) rfl)) S46_o.n2 d10_170 (pc' := 173) rfl (fun T48 X48 e48 => ?_)
  refine ow_iastore (i := k.toNatClampNeg) C X48 e48 S46_o.w4 hk.n0 rfl hk.n16 d10_173 (pc' := 174) rfl (fun T49 h49 X49 e49 W49 => ?_)
  have S49_o := OwS.set4 (hw _ (List.mem_of_getElem? (i := 6) rfl)) S46_o G.inj (Keep.of_wr W49) ((S46_o.w4.set W49).congr (fun j _ => by (try dsimp only); split <;> rfl))
  have S49_q := G.kq S46_q (G.al 4 (by decide)).2.1 (Keep.of_wr W49)
  have N49 := Fr.snoc X49 N46 (G.al 4 (by decide)).1
  refine ow_aloadN C X49 d10_174 rfl rfl (pc' := 175) rfl ?_
  refine ow_iloadN C X49 d10_175 rfl (pc' := 176) rfl ?_
  refine ow_callR C X49 e49 (hw _ (List.mem_of_getElem? (i := 118) rfl)) (hw _ (List.mem_of_getElem? (i := 119) rfl)) (hw _ (List.mem_of_getElem? (i := 120) rfl)) (hw _ (List.mem_of_getElem? (i := 6) rfl)) (hw _ (List.mem_of_getElem? (i := 7) rfl)) (hw _ (List.mem_of_getElem? (i := 121) rfl)) (by decide) S49_q.E (rm_oac l Z a0 hw q bd h49 S49_q) pd_0 rfl (argsL := [(.int (0 : Int32))]) (rest := []) rfl rfl d10_176 (Nat.le_of_ble_eq_true rfl) (Nat.le_of_ble_eq_true rfl) (Nat.le_of_ble_eq_true rfl) (Nat.le_of_ble_eq_true rfl) (pc' := 179) rfl (fun T50 v50 L50 X50 Q50 => ?_)
  obtain ⟨rfl, rfl, Hc50⟩ := Q50
  rw [List.append_nil] at X50
  show OwF p e below _ T50 (mkF m 179 #[.val (.ref o), .val (.ref q), .val (.int (0 : Int32)), .val (.int k), .val (.int (0 : Int32)), .unset, .unset, .unset, .unset, .unset] [(.int (0 : Int32))])
  refine ow_istore C X50 d10_179 (Ls' := #[.val (.ref o), .val (.ref q), .val (.int (0 : Int32)), .val (.int k), .val (.int (0 : Int32)), .val (.int (0 : Int32)), .unset, .unset, .unset, .unset]) rfl (pc' := 181) rfl ?_
  refine ow_aloadN C X50 d10_181 rfl rfl (pc' := 182) rfl ?_
  refine ow_getF C X50 Hc50 (hw _ (List.mem_of_getElem? (i := 116) rfl)) S49_o.n2 d10_182 (pc' := 185) rfl (fun T51 X51 e51 => ?_)
  refine ow_iload C X51 d10_185 rfl (pc' := 187) rfl ?_
  refine ow_iadd C X51 d10_187 (pc' := 188) rfl ?_
  refine ow_aloadN C X51 d10_188 rfl rfl (pc' := 189) rfl ?_
  refine ow_getF C X51 e51 (hw _ (List.mem_of_getElem? (i := 40) rfl)) S49_o.f9 d10_189 (pc' := 192) rfl (fun T52 X52 e52 => ?_)
  refine ow_arraylength C X52 e52 S49_o.w9 (z := (16 : Int32)) (by decide) d10_192 (pc' := 193) rfl ?_
  refine ow_icmp_le C X52 d10_193 (pcT := 207) (pc' := 196) (by decide) (by decide) rfl (fun _ => ?_) (fun bq => absurd bq (by decide))
  refine ow_aloadN C X52 d10_207 rfl rfl (pc' := 208) rfl ?_
  refine ow_getF C X52 e52 (hw _ (List.mem_of_getElem? (i := 25) rfl)) S49_q.f4 d10_208 (pc' := 211) rfl (fun T53 X53 e53 => ?_)
  refine ow_iloadN C X53 d10_211 rfl (pc' := 212) rfl ?_
  refine ow_iaload (i := 0) C X53 e53 S49_q.w4 (by decide) (by decide) (Nat.le_of_ble_eq_true rfl) (v := (.int (0 : Int32))) rfl d10_212 (pc' := 213) rfl ?_
  refine ow_istore C X53 d10_213 (Ls' := #[.val (.ref o), .val (.ref q), .val (.int (0 : Int32)), .val (.int k), .val (.int (0 : Int32)), .val (.int (0 : Int32)), .val (.int (0 : Int32)), .unset, .unset, .unset]) rfl (pc' := 215) rfl ?_
  refine ow_aloadN C X53 d10_215 rfl rfl (pc' := 216) rfl ?_
  refine ow_getF C X53 e53 (hw _ (List.mem_of_getElem? (i := 38) rfl)) S49_q.f8 d10_216 (pc' := 219) rfl (fun T54 X54 e54 => ?_)
  refine ow_iload C X54 d10_219 rfl (pc' := 221) rfl ?_
  refine ow_aloadN C X54 d10_221 rfl rfl (pc' := 222) rfl ?_
  refine ow_getF C X54 e54 (hw _ (List.mem_of_getElem? (i := 38) rfl)) S49_o.f8 d10_222 (pc' := 225) rfl (fun T55 X55 e55 => ?_)
  refine ow_aloadN C X55 d10_225 rfl rfl (pc' := 226) rfl ?_
  refine ow_getF C X55 e55 (hw _ (List.mem_of_getElem? (i := 116) rfl)) S49_o.n2 d10_226 (pc' := 229) rfl (fun T56 X56 e56 => ?_)
  refine ow_iload C X56 d10_229 rfl (pc' := 231) rfl ?_
  refine ow_acopy0 (zs := (16 : Int32)) (zd := (16 : Int32)) C X56 e56 (hw _ (List.mem_of_getElem? (i := 112) rfl)) (hw _ (List.mem_of_getElem? (i := 115) rfl)) (hw _ (List.mem_of_getElem? (i := 113) rfl)) (hw _ (List.mem_of_getElem? (i := 114) rfl)) S49_q.w8 S49_o.w8 (Or.inr ⟨rfl, rfl⟩) (fun _ _ => rfl) (fun _ _ => rfl) (by decide) (by decide) (by decide) (by decide) (by decide) (by decide) (by decide) (by decide) N49 (G.al 8 (by decide)).1 rfl d10_231 (Nat.le_of_ble_eq_true rfl) (Nat.le_of_ble_eq_true rfl) (pc' := 234) rfl (fun T57 h57 L57 X57 e57 N57 Kc57 Ac57 => ?_)
  have S57_o := OwS.set8 (hw _ (List.mem_of_getElem? (i := 6) rfl)) S49_o G.inj Kc57 Ac57
  have S57_q := G.kq S49_q (G.al 8 (by decide)).2.1 Kc57
  refine ow_aloadN C X57 d10_234 rfl rfl (pc' := 235) rfl ?_
  refine ow_getF C X57 e57 (hw _ (List.mem_of_getElem? (i := 40) rfl)) S57_q.f9 d10_235 (pc' := 238) rfl (fun T58 X58 e58 => ?_)
  refine ow_iload C X58 d10_238 rfl (pc' := 240) rfl ?_
  refine ow_aloadN C X58 d10_240 rfl rfl (pc' := 241) rfl ?_
  refine ow_getF C X58 e58 (hw _ (List.mem_of_getElem? (i := 40) rfl)) S57_o.f9 d10_241 (pc' := 244) rfl (fun T59 X59 e59 => ?_)
  refine ow_aloadN C X59 d10_244 rfl rfl (pc' := 245) rfl ?_
  refine ow_getF C X59 e59 (hw _ (List.mem_of_getElem? (i := 116) rfl)) S57_o.n2 d10_245 (pc' := 248) rfl (fun T60 X60 e60 => ?_)
  refine ow_iload C X60 d10_248 rfl (pc' := 250) rfl ?_
  refine ow_acopy0 (zs := (16 : Int32)) (zd := (16 : Int32)) C X60 e60 (hw _ (List.mem_of_getElem? (i := 112) rfl)) (hw _ (List.mem_of_getElem? (i := 115) rfl)) (hw _ (List.mem_of_getElem? (i := 113) rfl)) (hw _ (List.mem_of_getElem? (i := 114) rfl)) S57_q.w9 S57_o.w9 (Or.inr ⟨rfl, rfl⟩) (fun _ _ => rfl) (fun _ _ => rfl) (by decide) (by decide) (by decide) (by decide) (by decide) (by decide) (by decide) (by decide) N57 (G.al 9 (by decide)).1 rfl d10_250 (Nat.le_of_ble_eq_true rfl) (Nat.le_of_ble_eq_true rfl) (pc' := 253) rfl (fun T61 h61 L61 X61 e61 N61 Kc61 Ac61 => ?_)
  have S61_o := OwS.set9 (hw _ (List.mem_of_getElem? (i := 6) rfl)) S57_o G.inj Kc61 Ac61
  have S61_q := G.kq S57_q (G.al 9 (by decide)).2.1 Kc61
  refine ow_aloadN C X61 d10_253 rfl rfl (pc' := 254) rfl ?_
  refine ow_getF C X61 e61 (hw _ (List.mem_of_getElem? (i := 42) rfl)) S61_q.f10 d10_254 (pc' := 257) rfl (fun T62 X62 e62 => ?_)
  refine ow_iload C X62 d10_257 rfl (pc' := 259) rfl ?_
  refine ow_aloadN C X62 d10_259 rfl rfl (pc' := 260) rfl ?_
  refine ow_getF C X62 e62 (hw _ (List.mem_of_getElem? (i := 42) rfl)) S61_o.f10 d10_260 (pc' := 263) rfl (fun T63 X63 e63 => ?_)
  refine ow_aloadN C X63 d10_263 rfl rfl (pc' := 264) rfl ?_
  refine ow_getF C X63 e63 (hw _ (List.mem_of_getElem? (i := 116) rfl)) S61_o.n2 d10_264 (pc' := 267) rfl (fun T64 X64 e64 => ?_)
  refine ow_iload C X64 d10_267 rfl (pc' := 269) rfl ?_
  refine ow_acopy0 (zs := (16 : Int32)) (zd := (16 : Int32)) C X64 e64 (hw _ (List.mem_of_getElem? (i := 112) rfl)) (hw _ (List.mem_of_getElem? (i := 115) rfl)) (hw _ (List.mem_of_getElem? (i := 113) rfl)) (hw _ (List.mem_of_getElem? (i := 114) rfl)) S61_q.w10 S61_o.w10 (Or.inr ⟨rfl, rfl⟩) (fun _ _ => rfl) (fun _ _ => rfl) (by decide) (by decide) (by decide) (by decide) (by decide) (by decide) (by decide) (by decide) N61 (G.al 10 (by decide)).1 rfl d10_269 (Nat.le_of_ble_eq_true rfl) (Nat.le_of_ble_eq_true rfl) (pc' := 272) rfl (fun T65 h65 L65 X65 e65 N65 Kc65 Ac65 => ?_)
  have S65_o := OwS.set10 (hw _ (List.mem_of_getElem? (i := 6) rfl)) S61_o G.inj Kc65 Ac65
  have S65_q := G.kq S61_q (G.al 10 (by decide)).2.1 Kc65
  refine ow_iload C X65 d10_272 rfl (pc' := 274) rfl ?_
  refine ow_if_ne C X65 d10_274 (pcT := 281) (pc' := 277) (by decide) (by decide) rfl (fun bq => absurd (by decide) bq) (fun _ => ?_)
  refine ow_iconst (0 : Int32) C X65 d10_277 (by decide) (pc' := 278) rfl ?_
  refine ow_goto C X65 d10_278 (pcT := 290) (by decide) (by decide) ?_
  refine ow_istore C X65 d10_290 (Ls' := #[.val (.ref o), .val (.ref q), .val (.int (0 : Int32)), .val (.int k), .val (.int (0 : Int32)), .val (.int (0 : Int32)), .val (.int (0 : Int32)), .val (.int (0 : Int32)), .unset, .unset]) rfl (pc' := 292) rfl ?_
  refine ow_aloadN C X65 d10_292 rfl rfl (pc' := 293) rfl ?_
  refine ow_getF C X65 e65 (hw _ (List.mem_of_getElem? (i := 122) rfl)) S65_o.n3 d10_293 (pc' := 296) rfl (fun T66 X66 e66 => ?_)
  refine ow_iload C X66 d10_296 rfl (pc' := 298) rfl ?_
  refine ow_isub C X66 d10_298 (pc' := 299) rfl ?_
  refine ow_istore C X66 d10_299 (Ls' := #[.val (.ref o), .val (.ref q), .val (.int (0 : Int32)), .val (.int k), .val (.int (0 : Int32)), .val (.int (0 : Int32)), .val (.int (0 : Int32)), .val (.int (0 : Int32)), .val (.int ((0 : Int32) - (0 : Int32))), .unset]) rfl (pc' := 301) rfl ?_
  refine ow_aloadN C X66 d10_301 rfl rfl (pc' := 302) rfl ?_
  refine ow_aloadN C X66 d10_302 rfl rfl (pc' := 303) rfl ?_
  refine ow_getF C X66 e66 (hw _ (List.mem_of_getElem? (i := 47) rfl)) S65_q.f11 d10_303 (pc' := 306) rfl (fun T67 X67 e67 => ?_)
  refine ow_iload C X67 d10_306 rfl (pc' := 308) rfl ?_
  refine ow_iload C X67 d10_308 rfl (pc' := 310) rfl ?_
  refine ow_if_ne C X67 d10_310 (pcT := 317) (pc' := 313) (by decide) (by decide) rfl (fun bq => absurd (by decide) bq) (fun _ => ?_)
  refine ow_iconst (0 : Int32) C X67 d10_313 (by decide) (pc' := 314) rfl ?_
  refine ow_goto C X67 d10_314 (pcT := 332) (by decide) (by decide) ?_
  refine ow_callR C X67 e67 (hw _ (List.mem_of_getElem? (i := 124) rfl)) (hw _ (List.mem_of_getElem? (i := 125) rfl)) (hw _ (List.mem_of_getElem? (i := 126) rfl)) (hw _ (List.mem_of_getElem? (i := 6) rfl)) (hw _ (List.mem_of_getElem? (i := 7) rfl)) (hw _ (List.mem_of_getElem? (i := 127) rfl)) (by decide) S65_o.E (rm_cpv l Z a0 hw o q (k + (1 : Int32)) ad bd h65 n0 N S65_o S65_q G) pd_1 rfl (argsL := [(.ref (bd 11)), (.int (0 : Int32)), (.int (0 : Int32))]) (rest := []) rfl rfl d10_332 (Nat.le_of_ble_eq_true rfl) (Nat.le_of_ble_eq_true rfl) (Nat.le_of_ble_eq_true rfl) (Nat.le_of_ble_eq_true rfl) (pc' := 335) rfl (fun T68 v68 L68 X68 Q68 => ?_)
  obtain ⟨rfl, N68, S68_o, S68_q⟩ := Q68
  have Nn68 := Fr.app N65 N68
  show OwF p e below _ T68 (mkF m 335 #[.val (.ref o), .val (.ref q), .val (.int (0 : Int32)), .val (.int k), .val (.int (0 : Int32)), .val (.int (0 : Int32)), .val (.int (0 : Int32)), .val (.int (0 : Int32)), .val (.int ((0 : Int32) - (0 : Int32))), .unset] [])
  refine ow_iconst (0 : Int32) C X68 d10_335 (by decide) (pc' := 336) rfl ?_
  refine ow_istore C X68 d10_336 (Ls' := #[.val (.ref o), .val (.ref q), .val (.int (0 : Int32)), .val (.int k), .val (.int (0 : Int32)), .val (.int (0 : Int32)), .val (.int (0 : Int32)), .val (.int (0 : Int32)), .val (.int ((0 : Int32) - (0 : Int32))), .val (.int (0 : Int32))]) rfl (pc' := 338) rfl ?_
  refine ow_iload C X68 d10_338 rfl (pc' := 340) rfl ?_
  refine ow_iload C X68 d10_340 rfl (pc' := 342) rfl ?_
  refine ow_icmp_ge C X68 d10_342 (pcT := 376) (pc' := 345) (by decide) (by decide) rfl (fun _ => ?_) (fun bq => absurd bq (by decide))
  refine ow_aloadN C X68 d10_376 rfl rfl (pc' := 377) rfl ?_
  refine ow_dup C X68 d10_377 rfl (pc' := 378) rfl ?_
  refine ow_getF C X68 rfl (hw _ (List.mem_of_getElem? (i := 116) rfl)) S68_o.n2 d10_378 (pc' := 381) rfl (fun T69 X69 e69 => ?_)
  refine ow_iload C X69 d10_381 rfl (pc' := 383) rfl ?_
  refine ow_iadd C X69 d10_383 (pc' := 384) rfl ?_
  refine ow_putF C X69 e69 (hw _ (List.mem_of_getElem? (i := 116) rfl)) S68_o.n2 S68_o.E (Or.inl (hw _ (List.mem_of_getElem? (i := 117) rfl))) (hw _ (List.mem_of_getElem? (i := 6) rfl)) (ty := .int) (by decide) rfl rfl d10_384 (pc' := 387) rfl (fun T70 h70 X70 e70 W70 => ?_)
  have S70_o := OwS.put2 hw S68_o W70 (by decide)
  have S70_q := G.kq S68_q G.ol (Keep.of_wr W70)
  have N70 := Fr.snoc X70 Nn68 G.lo
  refine ow_aloadN C X70 d10_387 rfl rfl (pc' := 388) rfl ?_
  refine ow_iloadN C X70 d10_388 rfl (pc' := 389) rfl ?_
  refine ow_aloadN C X70 d10_389 rfl rfl (pc' := 390) rfl ?_
  refine ow_getF C X70 e70 (hw _ (List.mem_of_getElem? (i := 32) rfl)) S70_q.f5 d10_390 (pc' := 393) rfl (fun T71 X71 e71 => ?_)
  refine ow_iloadN C X71 d10_393 rfl (pc' := 394) rfl ?_
  refine ow_baloadZ (i := 0) C X71 e71 S70_q.w5 (by decide) (by decide) (Nat.le_of_ble_eq_true rfl) (v := (.int (0 : Int32))) rfl d10_394 (pc' := 395) rfl ?_
  refine ow_if_eq C X71 d10_395 (pcT := 407) (pc' := 398) (by decide) (by decide) rfl (fun _ => ?_) (fun bq => absurd (by decide) bq)
  refine ow_aconstNull C X71 d10_407 (pc' := 408) rfl ?_
  refine ow_callR C X71 e71 (hw _ (List.mem_of_getElem? (i := 128) rfl)) (hw _ (List.mem_of_getElem? (i := 129) rfl)) (hw _ (List.mem_of_getElem? (i := 130) rfl)) (hw _ (List.mem_of_getElem? (i := 6) rfl)) (hw _ (List.mem_of_getElem? (i := 7) rfl)) (hw _ (List.mem_of_getElem? (i := 131) rfl)) (by decide) S70_o.E (rm_kpd l Z a0 hw o q (k + (1 : Int32)) ad bd h70 n0 N S70_o S70_q G k hk) pd_2 rfl (argsL := [(.int k), .null]) (rest := []) rfl rfl d10_408 (Nat.le_of_ble_eq_true rfl) (Nat.le_of_ble_eq_true rfl) (Nat.le_of_ble_eq_true rfl) (Nat.le_of_ble_eq_true rfl) (pc' := 411) rfl (fun T72 v72 L72 X72 Q72 => ?_)
  obtain ⟨rfl, N72, S72_o, S72_q⟩ := Q72
  have Nn72 := Fr.app N70 N72
  show OwF p e below _ T72 (mkF m 411 #[.val (.ref o), .val (.ref q), .val (.int (0 : Int32)), .val (.int k), .val (.int (0 : Int32)), .val (.int (0 : Int32)), .val (.int (0 : Int32)), .val (.int (0 : Int32)), .val (.int ((0 : Int32) - (0 : Int32))), .val (.int (0 : Int32))] [])
  refine ow_iloadN C X72 d10_411 rfl (pc' := 412) rfl ?_
  refine ow_retI C X72 d10_412 (Nat.le_of_ble_eq_true rfl) (Nat.le_of_ble_eq_true rfl) ?_
  exact ⟨rfl, Nn72, S72_o, S72_q⟩
def own_fill (q2 : Int32) : Int32 := if 0 < q2 then (if (1 : Int32) < q2 then (if (2 : Int32) < q2 then ((((0 : Int32) + (1 : Int32)) + (1 : Int32)) + (1 : Int32)) else (((0 : Int32) + (1 : Int32)) + (1 : Int32))) else if (2 : Int32) < q2 then (((0 : Int32) + (1 : Int32)) + (1 : Int32)) else ((0 : Int32) + (1 : Int32))) else if (1 : Int32) < q2 then (if (2 : Int32) < q2 then (((0 : Int32) + (1 : Int32)) + (1 : Int32)) else ((0 : Int32) + (1 : Int32))) else if (2 : Int32) < q2 then ((0 : Int32) + (1 : Int32)) else (0 : Int32)
theorem d6_0 : decode method_2_code 0 = .ok (.iload_n 2, 1) := by decide +kernel
theorem d6_1 : decode method_2_code 1 = .ok (.ifCond .le 10, 3) := by decide +kernel
theorem d6_4 : decode method_2_code 4 = .ok (.aload_n 0, 1) := by decide +kernel
theorem d6_5 : decode method_2_code 5 = .ok (.aload_n 1, 1) := by decide +kernel
theorem d6_6 : decode method_2_code 6 = .ok (.iconst 0, 1) := by decide +kernel
theorem d6_7 : decode method_2_code 7 = .ok (.invokevirtual 7, 3) := by decide +kernel
theorem d6_10 : decode method_2_code 10 = .ok (.pop, 1) := by decide +kernel
theorem d6_11 : decode method_2_code 11 = .ok (.iload_n 2, 1) := by decide +kernel
theorem d6_12 : decode method_2_code 12 = .ok (.iconst 1, 1) := by decide +kernel
theorem d6_13 : decode method_2_code 13 = .ok (.if_icmp .le 10, 3) := by decide +kernel
theorem d6_16 : decode method_2_code 16 = .ok (.aload_n 0, 1) := by decide +kernel
theorem d6_17 : decode method_2_code 17 = .ok (.aload_n 1, 1) := by decide +kernel
theorem d6_18 : decode method_2_code 18 = .ok (.iconst 0, 1) := by decide +kernel
theorem d6_19 : decode method_2_code 19 = .ok (.invokevirtual 7, 3) := by decide +kernel
theorem d6_22 : decode method_2_code 22 = .ok (.pop, 1) := by decide +kernel
theorem d6_23 : decode method_2_code 23 = .ok (.iload_n 2, 1) := by decide +kernel
theorem d6_24 : decode method_2_code 24 = .ok (.iconst 2, 1) := by decide +kernel
theorem d6_25 : decode method_2_code 25 = .ok (.if_icmp .le 10, 3) := by decide +kernel
theorem d6_28 : decode method_2_code 28 = .ok (.aload_n 0, 1) := by decide +kernel
theorem d6_29 : decode method_2_code 29 = .ok (.aload_n 1, 1) := by decide +kernel
theorem d6_30 : decode method_2_code 30 = .ok (.iconst 0, 1) := by decide +kernel
theorem d6_31 : decode method_2_code 31 = .ok (.invokevirtual 7, 3) := by decide +kernel
theorem d6_34 : decode method_2_code 34 = .ok (.pop, 1) := by decide +kernel
theorem d6_35 : decode method_2_code 35 = .ok (.return_, 1) := by decide +kernel
theorem pn_6 : plainFor (⟨"com/example/narrow_view/narrowview/StartTagsTruncatePinLaw", "fill", "(Lcom/example/narrow_view/narrowview/StartTags;Lcom/example/narrow_view/narrowview/StartTags;I)V"⟩ : MethodName) = true := by first | exact plainFor_of_name (by first | (simp [plainName, overriddenIn]; done) | decide +kernel) | decide +kernel
theorem pd_4 : parseMethodDescriptor "(Lcom/example/narrow_view/narrowview/StartTags;Lcom/example/narrow_view/narrowview/StartTags;I)V" = some ⟨[(.object "com/example/narrow_view/narrowview/StartTags"), (.object "com/example/narrow_view/narrowview/StartTags"), .int], none⟩ := by decide +kernel
set_option maxRecDepth 65536 in
set_option maxHeartbeats 40000000 in
theorem rm_fill (l : Launch) (Z : State) (a0 : Array Value) (hw : ∀ d ∈ tables_1, d.before a0 Z = true) (o q : Addr) (q2 : Int32) (ad bd : Nat → Addr) (h0 : Heap) (n0 N : Nat) (S1 : OwS Z h0 o 0 ad) (S2 : OwS Z h0 q 0 bd) (G : OwG n0 N o q ad bd) :
    OwCon l (⟨"com/example/narrow_view/narrowview/StartTagsTruncatePinLaw", "fill", "(Lcom/example/narrow_view/narrowview/StartTags;Lcom/example/narrow_view/narrowview/StartTags;I)V"⟩ : MethodName) method_2_code 3 none ({ frames := 3, cells := 0, slots := 0, locals := 66 } : Room) Z #[(.ref o), (.ref q), (.int q2)] h0 (fun v h L => v = none ∧ Fr n0 L ∧ OwS Z h o (own_fill q2) ad ∧ OwS Z h q 0 bd) := by
  refine OwCon.of pn_6 (Ls := #[.val (.ref o), .val (.ref q), .val (.int q2)]) (fun m => by first | (simp [entryFrame, mkF, argsToLocals, Value.category]; done) | rfl) ?_
  intro p e s m below meth c s₁ C X0 e0
  refine ow_iloadN C X0 d6_0 rfl (pc' := 1) rfl ?_
  refine ow_if_le C X0 d6_1 (pcT := 11) (pc' := 4) (by decide) (by decide) rfl (fun b1 => ?_) (fun b1 => ?_)
  · refine ow_iloadN C X0 d6_11 rfl (pc' := 12) rfl ?_
    refine ow_iconst (1 : Int32) C X0 d6_12 (by decide) (pc' := 13) rfl ?_
    refine ow_icmp_le C X0 d6_13 (pcT := 23) (pc' := 16) (by decide) (by decide) rfl (fun b13 => ?_) (fun b13 => ?_)
    · refine ow_iloadN C X0 d6_23 rfl (pc' := 24) rfl ?_
      refine ow_iconst (2 : Int32) C X0 d6_24 (by decide) (pc' := 25) rfl ?_
      refine ow_icmp_le C X0 d6_25 (pcT := 35) (pc' := 28) (by decide) (by decide) rfl (fun b25 => ?_) (fun b25 => ?_)
      · refine ow_retV C X0 d6_35 (Nat.le_of_ble_eq_true rfl) (Nat.le_of_ble_eq_true rfl) ?_
        rw [e0]
        rw [show own_fill q2 = (0 : Int32) from by unfold own_fill; rw [if_neg b1, if_neg b13, if_neg b25]]
        exact ⟨rfl, (Fr.nil n0), S1, S2⟩
      · refine ow_aloadN C X0 d6_28 rfl rfl (pc' := 29) rfl ?_
        refine ow_aloadN C X0 d6_29 rfl rfl (pc' := 30) rfl ?_
        refine ow_iconst (0 : Int32) C X0 d6_30 (by decide) (pc' := 31) rfl ?_
        refine ow_callV C X0 e0 (hw _ (List.mem_of_getElem? (i := 100) rfl)) (hw _ (List.mem_of_getElem? (i := 101) rfl)) (hw _ (List.mem_of_getElem? (i := 103) rfl)) rfl (hw _ (List.mem_of_getElem? (i := 102) rfl)) (hw _ (List.mem_of_getElem? (i := 7) rfl)) (hw _ (List.mem_of_getElem? (i := 104) rfl)) (by decide) S1.E (rm_add l Z a0 hw o q (0 : Int32) ad bd h0 n0 N S1 S2 G (by unfold OwSm; decide)) pd_3 rfl (argsL := [(.ref q), (.int (0 : Int32))]) (rest := []) rfl rfl d6_31 (Nat.le_of_ble_eq_true rfl) (Nat.le_of_ble_eq_true rfl) (Nat.le_of_ble_eq_true rfl) (Nat.le_of_ble_eq_true rfl) (pc' := 34) rfl (fun T79 v79 L79 X79 Q79 => ?_)
        obtain ⟨rfl, N79, S79_o, S79_q⟩ := Q79
        have Nn79 := Fr.app (Fr.nil n0) N79
        show OwF p e below _ T79 (mkF m 34 #[.val (.ref o), .val (.ref q), .val (.int q2)] [(.int (0 : Int32))])
        refine ow_pop C X79 d6_34 rfl (pc' := 35) rfl ?_
        refine ow_retV C X79 d6_35 (Nat.le_of_ble_eq_true rfl) (Nat.le_of_ble_eq_true rfl) ?_
        rw [show own_fill q2 = ((0 : Int32) + (1 : Int32)) from by unfold own_fill; rw [if_neg b1, if_neg b13, if_pos b25]]
        exact ⟨rfl, Nn79, S79_o, S79_q⟩
    · refine ow_aloadN C X0 d6_16 rfl rfl (pc' := 17) rfl ?_
      refine ow_aloadN C X0 d6_17 rfl rfl (pc' := 18) rfl ?_
      refine ow_iconst (0 : Int32) C X0 d6_18 (by decide) (pc' := 19) rfl ?_
      refine ow_callV C X0 e0 (hw _ (List.mem_of_getElem? (i := 100) rfl)) (hw _ (List.mem_of_getElem? (i := 101) rfl)) (hw _ (List.mem_of_getElem? (i := 103) rfl)) rfl (hw _ (List.mem_of_getElem? (i := 102) rfl)) (hw _ (List.mem_of_getElem? (i := 7) rfl)) (hw _ (List.mem_of_getElem? (i := 104) rfl)) (by decide) S1.E (rm_add l Z a0 hw o q (0 : Int32) ad bd h0 n0 N S1 S2 G (by unfold OwSm; decide)) pd_3 rfl (argsL := [(.ref q), (.int (0 : Int32))]) (rest := []) rfl rfl d6_19 (Nat.le_of_ble_eq_true rfl) (Nat.le_of_ble_eq_true rfl) (Nat.le_of_ble_eq_true rfl) (Nat.le_of_ble_eq_true rfl) (pc' := 22) rfl (fun T77 v77 L77 X77 Q77 => ?_)
      obtain ⟨rfl, N77, S77_o, S77_q⟩ := Q77
      have Nn77 := Fr.app (Fr.nil n0) N77
      show OwF p e below _ T77 (mkF m 22 #[.val (.ref o), .val (.ref q), .val (.int q2)] [(.int (0 : Int32))])
      refine ow_pop C X77 d6_22 rfl (pc' := 23) rfl ?_
      refine ow_iloadN C X77 d6_23 rfl (pc' := 24) rfl ?_
      refine ow_iconst (2 : Int32) C X77 d6_24 (by decide) (pc' := 25) rfl ?_
      refine ow_icmp_le C X77 d6_25 (pcT := 35) (pc' := 28) (by decide) (by decide) rfl (fun b25 => ?_) (fun b25 => ?_)
      · refine ow_retV C X77 d6_35 (Nat.le_of_ble_eq_true rfl) (Nat.le_of_ble_eq_true rfl) ?_
        rw [show own_fill q2 = ((0 : Int32) + (1 : Int32)) from by unfold own_fill; rw [if_neg b1, if_pos b13, if_neg b25]]
        exact ⟨rfl, Nn77, S77_o, S77_q⟩
      · refine ow_aloadN C X77 d6_28 rfl rfl (pc' := 29) rfl ?_
        refine ow_aloadN C X77 d6_29 rfl rfl (pc' := 30) rfl ?_
        refine ow_iconst (0 : Int32) C X77 d6_30 (by decide) (pc' := 31) rfl ?_
        refine ow_callV C X77 rfl (hw _ (List.mem_of_getElem? (i := 100) rfl)) (hw _ (List.mem_of_getElem? (i := 101) rfl)) (hw _ (List.mem_of_getElem? (i := 103) rfl)) rfl (hw _ (List.mem_of_getElem? (i := 102) rfl)) (hw _ (List.mem_of_getElem? (i := 7) rfl)) (hw _ (List.mem_of_getElem? (i := 104) rfl)) (by decide) S77_o.E (rm_add l Z a0 hw o q ((0 : Int32) + (1 : Int32)) ad bd T77.heap n0 N S77_o S77_q G (by unfold OwSm; decide)) pd_3 rfl (argsL := [(.ref q), (.int (0 : Int32))]) (rest := []) rfl rfl d6_31 (Nat.le_of_ble_eq_true rfl) (Nat.le_of_ble_eq_true rfl) (Nat.le_of_ble_eq_true rfl) (Nat.le_of_ble_eq_true rfl) (pc' := 34) rfl (fun T78 v78 L78 X78 Q78 => ?_)
        obtain ⟨rfl, N78, S78_o, S78_q⟩ := Q78
        have Nn78 := Fr.app Nn77 N78
        show OwF p e below _ T78 (mkF m 34 #[.val (.ref o), .val (.ref q), .val (.int q2)] [(.int ((0 : Int32) + (1 : Int32)))])
        refine ow_pop C X78 d6_34 rfl (pc' := 35) rfl ?_
        refine ow_retV C X78 d6_35 (Nat.le_of_ble_eq_true rfl) (Nat.le_of_ble_eq_true rfl) ?_
        rw [show own_fill q2 = (((0 : Int32) + (1 : Int32)) + (1 : Int32)) from by unfold own_fill; rw [if_neg b1, if_pos b13, if_pos b25]]
        exact ⟨rfl, Nn78, S78_o, S78_q⟩
  · refine ow_aloadN C X0 d6_4 rfl rfl (pc' := 5) rfl ?_
    refine ow_aloadN C X0 d6_5 rfl rfl (pc' := 6) rfl ?_
    refine ow_iconst (0 : Int32) C X0 d6_6 (by decide) (pc' := 7) rfl ?_
    refine ow_callV C X0 e0 (hw _ (List.mem_of_getElem? (i := 100) rfl)) (hw _ (List.mem_of_getElem? (i := 101) rfl)) (hw _ (List.mem_of_getElem? (i := 103) rfl)) rfl (hw _ (List.mem_of_getElem? (i := 102) rfl)) (hw _ (List.mem_of_getElem? (i := 7) rfl)) (hw _ (List.mem_of_getElem? (i := 104) rfl)) (by decide) S1.E (rm_add l Z a0 hw o q (0 : Int32) ad bd h0 n0 N S1 S2 G (by unfold OwSm; decide)) pd_3 rfl (argsL := [(.ref q), (.int (0 : Int32))]) (rest := []) rfl rfl d6_7 (Nat.le_of_ble_eq_true rfl) (Nat.le_of_ble_eq_true rfl) (Nat.le_of_ble_eq_true rfl) (Nat.le_of_ble_eq_true rfl) (pc' := 10) rfl (fun T73 v73 L73 X73 Q73 => ?_)
    obtain ⟨rfl, N73, S73_o, S73_q⟩ := Q73
    have Nn73 := Fr.app (Fr.nil n0) N73
    show OwF p e below _ T73 (mkF m 10 #[.val (.ref o), .val (.ref q), .val (.int q2)] [(.int (0 : Int32))])
    refine ow_pop C X73 d6_10 rfl (pc' := 11) rfl ?_
    refine ow_iloadN C X73 d6_11 rfl (pc' := 12) rfl ?_
    refine ow_iconst (1 : Int32) C X73 d6_12 (by decide) (pc' := 13) rfl ?_
    refine ow_icmp_le C X73 d6_13 (pcT := 23) (pc' := 16) (by decide) (by decide) rfl (fun b13 => ?_) (fun b13 => ?_)
    · refine ow_iloadN C X73 d6_23 rfl (pc' := 24) rfl ?_
      refine ow_iconst (2 : Int32) C X73 d6_24 (by decide) (pc' := 25) rfl ?_
      refine ow_icmp_le C X73 d6_25 (pcT := 35) (pc' := 28) (by decide) (by decide) rfl (fun b25 => ?_) (fun b25 => ?_)
      · refine ow_retV C X73 d6_35 (Nat.le_of_ble_eq_true rfl) (Nat.le_of_ble_eq_true rfl) ?_
        rw [show own_fill q2 = ((0 : Int32) + (1 : Int32)) from by unfold own_fill; rw [if_pos b1, if_neg b13, if_neg b25]]
        exact ⟨rfl, Nn73, S73_o, S73_q⟩
      · refine ow_aloadN C X73 d6_28 rfl rfl (pc' := 29) rfl ?_
        refine ow_aloadN C X73 d6_29 rfl rfl (pc' := 30) rfl ?_
        refine ow_iconst (0 : Int32) C X73 d6_30 (by decide) (pc' := 31) rfl ?_
        refine ow_callV C X73 rfl (hw _ (List.mem_of_getElem? (i := 100) rfl)) (hw _ (List.mem_of_getElem? (i := 101) rfl)) (hw _ (List.mem_of_getElem? (i := 103) rfl)) rfl (hw _ (List.mem_of_getElem? (i := 102) rfl)) (hw _ (List.mem_of_getElem? (i := 7) rfl)) (hw _ (List.mem_of_getElem? (i := 104) rfl)) (by decide) S73_o.E (rm_add l Z a0 hw o q ((0 : Int32) + (1 : Int32)) ad bd T73.heap n0 N S73_o S73_q G (by unfold OwSm; decide)) pd_3 rfl (argsL := [(.ref q), (.int (0 : Int32))]) (rest := []) rfl rfl d6_31 (Nat.le_of_ble_eq_true rfl) (Nat.le_of_ble_eq_true rfl) (Nat.le_of_ble_eq_true rfl) (Nat.le_of_ble_eq_true rfl) (pc' := 34) rfl (fun T76 v76 L76 X76 Q76 => ?_)
        obtain ⟨rfl, N76, S76_o, S76_q⟩ := Q76
        have Nn76 := Fr.app Nn73 N76
        show OwF p e below _ T76 (mkF m 34 #[.val (.ref o), .val (.ref q), .val (.int q2)] [(.int ((0 : Int32) + (1 : Int32)))])
        refine ow_pop C X76 d6_34 rfl (pc' := 35) rfl ?_
        refine ow_retV C X76 d6_35 (Nat.le_of_ble_eq_true rfl) (Nat.le_of_ble_eq_true rfl) ?_
        rw [show own_fill q2 = (((0 : Int32) + (1 : Int32)) + (1 : Int32)) from by unfold own_fill; rw [if_pos b1, if_neg b13, if_pos b25]]
        exact ⟨rfl, Nn76, S76_o, S76_q⟩
    · refine ow_aloadN C X73 d6_16 rfl rfl (pc' := 17) rfl ?_
      refine ow_aloadN C X73 d6_17 rfl rfl (pc' := 18) rfl ?_
      refine ow_iconst (0 : Int32) C X73 d6_18 (by decide) (pc' := 19) rfl ?_
      refine ow_callV C X73 rfl (hw _ (List.mem_of_getElem? (i := 100) rfl)) (hw _ (List.mem_of_getElem? (i := 101) rfl)) (hw _ (List.mem_of_getElem? (i := 103) rfl)) rfl (hw _ (List.mem_of_getElem? (i := 102) rfl)) (hw _ (List.mem_of_getElem? (i := 7) rfl)) (hw _ (List.mem_of_getElem? (i := 104) rfl)) (by decide) S73_o.E (rm_add l Z a0 hw o q ((0 : Int32) + (1 : Int32)) ad bd T73.heap n0 N S73_o S73_q G (by unfold OwSm; decide)) pd_3 rfl (argsL := [(.ref q), (.int (0 : Int32))]) (rest := []) rfl rfl d6_19 (Nat.le_of_ble_eq_true rfl) (Nat.le_of_ble_eq_true rfl) (Nat.le_of_ble_eq_true rfl) (Nat.le_of_ble_eq_true rfl) (pc' := 22) rfl (fun T74 v74 L74 X74 Q74 => ?_)
      obtain ⟨rfl, N74, S74_o, S74_q⟩ := Q74
      have Nn74 := Fr.app Nn73 N74
      show OwF p e below _ T74 (mkF m 22 #[.val (.ref o), .val (.ref q), .val (.int q2)] [(.int ((0 : Int32) + (1 : Int32)))])
      refine ow_pop C X74 d6_22 rfl (pc' := 23) rfl ?_
      refine ow_iloadN C X74 d6_23 rfl (pc' := 24) rfl ?_
      refine ow_iconst (2 : Int32) C X74 d6_24 (by decide) (pc' := 25) rfl ?_
      refine ow_icmp_le C X74 d6_25 (pcT := 35) (pc' := 28) (by decide) (by decide) rfl (fun b25 => ?_) (fun b25 => ?_)
      · refine ow_retV C X74 d6_35 (Nat.le_of_ble_eq_true rfl) (Nat.le_of_ble_eq_true rfl) ?_
        rw [show own_fill q2 = (((0 : Int32) + (1 : Int32)) + (1 : Int32)) from by unfold own_fill; rw [if_pos b1, if_pos b13, if_neg b25]]
        exact ⟨rfl, Nn74, S74_o, S74_q⟩
      · refine ow_aloadN C X74 d6_28 rfl rfl (pc' := 29) rfl ?_
        refine ow_aloadN C X74 d6_29 rfl rfl (pc' := 30) rfl ?_
        refine ow_iconst (0 : Int32) C X74 d6_30 (by decide) (pc' := 31) rfl ?_
        refine ow_callV C X74 rfl (hw _ (List.mem_of_getElem? (i := 100) rfl)) (hw _ (List.mem_of_getElem? (i := 101) rfl)) (hw _ (List.mem_of_getElem? (i := 103) rfl)) rfl (hw _ (List.mem_of_getElem? (i := 102) rfl)) (hw _ (List.mem_of_getElem? (i := 7) rfl)) (hw _ (List.mem_of_getElem? (i := 104) rfl)) (by decide) S74_o.E (rm_add l Z a0 hw o q (((0 : Int32) + (1 : Int32)) + (1 : Int32)) ad bd T74.heap n0 N S74_o S74_q G (by unfold OwSm; decide)) pd_3 rfl (argsL := [(.ref q), (.int (0 : Int32))]) (rest := []) rfl rfl d6_31 (Nat.le_of_ble_eq_true rfl) (Nat.le_of_ble_eq_true rfl) (Nat.le_of_ble_eq_true rfl) (Nat.le_of_ble_eq_true rfl) (pc' := 34) rfl (fun T75 v75 L75 X75 Q75 => ?_)
        obtain ⟨rfl, N75, S75_o, S75_q⟩ := Q75
        have Nn75 := Fr.app Nn74 N75
        show OwF p e below _ T75 (mkF m 34 #[.val (.ref o), .val (.ref q), .val (.int q2)] [(.int (((0 : Int32) + (1 : Int32)) + (1 : Int32)))])
        refine ow_pop C X75 d6_34 rfl (pc' := 35) rfl ?_
        refine ow_retV C X75 d6_35 (Nat.le_of_ble_eq_true rfl) (Nat.le_of_ble_eq_true rfl) ?_
        rw [show own_fill q2 = ((((0 : Int32) + (1 : Int32)) + (1 : Int32)) + (1 : Int32)) from by unfold own_fill; rw [if_pos b1, if_pos b13, if_pos b25]]
        exact ⟨rfl, Nn75, S75_o, S75_q⟩
def own_tr (q1 k : Int32) : Int32 := if q1 < k then q1 else k
theorem own_tri {z k : Int32} (hz : 0 ≤ z.toInt) (hk : OwSm k) (h : z < k) : ¬ z < 0 ∧ z.toNatClampNeg < 16 := by
  have h2 := hk.2
  rw [Int32.lt_iff_toInt_lt] at h
  refine ⟨fun w => ?_, ?_⟩
  · rw [Int32.lt_iff_toInt_lt] at w; have : (0 : Int32).toInt = 0 := rfl
    omega
  · show z.toInt.toNat < 16; omega
theorem d7_0 : decode prog_63_method_5_code 0 = .ok (.iload_n 1, 1) := by decide +kernel
theorem d7_1 : decode prog_63_method_5_code 1 = .ok (.aload_n 0, 1) := by decide +kernel
theorem d7_2 : decode prog_63_method_5_code 2 = .ok (.getfield 92, 3) := by decide +kernel
theorem d7_5 : decode prog_63_method_5_code 5 = .ok (.if_icmp .ge 59, 3) := by decide +kernel
theorem d7_8 : decode prog_63_method_5_code 8 = .ok (.aload_n 0, 1) := by decide +kernel
theorem d7_9 : decode prog_63_method_5_code 9 = .ok (.aload_n 0, 1) := by decide +kernel
theorem d7_10 : decode prog_63_method_5_code 10 = .ok (.getfield 21, 3) := by decide +kernel
theorem d7_13 : decode prog_63_method_5_code 13 = .ok (.iload_n 1, 1) := by decide +kernel
theorem d7_14 : decode prog_63_method_5_code 14 = .ok (.iaload, 1) := by decide +kernel
theorem d7_15 : decode prog_63_method_5_code 15 = .ok (.putfield 114, 3) := by decide +kernel
theorem d7_18 : decode prog_63_method_5_code 18 = .ok (.aload_n 0, 1) := by decide +kernel
theorem d7_19 : decode prog_63_method_5_code 19 = .ok (.aload_n 0, 1) := by decide +kernel
theorem d7_20 : decode prog_63_method_5_code 20 = .ok (.getfield 25, 3) := by decide +kernel
theorem d7_23 : decode prog_63_method_5_code 23 = .ok (.iload_n 1, 1) := by decide +kernel
theorem d7_24 : decode prog_63_method_5_code 24 = .ok (.iaload, 1) := by decide +kernel
theorem d7_25 : decode prog_63_method_5_code 25 = .ok (.putfield 131, 3) := by decide +kernel
theorem d7_28 : decode prog_63_method_5_code 28 = .ok (.aload_n 0, 1) := by decide +kernel
theorem d7_29 : decode prog_63_method_5_code 29 = .ok (.aload_n 0, 1) := by decide +kernel
theorem d7_30 : decode prog_63_method_5_code 30 = .ok (.getfield 131, 3) := by decide +kernel
theorem d7_33 : decode prog_63_method_5_code 33 = .ok (.ifCond .ne 7, 3) := by decide +kernel
theorem d7_36 : decode prog_63_method_5_code 36 = .ok (.iconst 0, 1) := by decide +kernel
theorem d7_37 : decode prog_63_method_5_code 37 = .ok (.goto 14, 3) := by decide +kernel
theorem d7_40 : decode prog_63_method_5_code 40 = .ok (.aload_n 0, 1) := by decide +kernel
theorem d7_41 : decode prog_63_method_5_code 41 = .ok (.getfield 53, 3) := by decide +kernel
theorem d7_44 : decode prog_63_method_5_code 44 = .ok (.aload_n 0, 1) := by decide +kernel
theorem d7_45 : decode prog_63_method_5_code 45 = .ok (.getfield 131, 3) := by decide +kernel
theorem d7_48 : decode prog_63_method_5_code 48 = .ok (.iconst 1, 1) := by decide +kernel
theorem d7_49 : decode prog_63_method_5_code 49 = .ok (.isub, 1) := by decide +kernel
theorem d7_50 : decode prog_63_method_5_code 50 = .ok (.iaload, 1) := by decide +kernel
theorem d7_51 : decode prog_63_method_5_code 51 = .ok (.putfield 164, 3) := by decide +kernel
theorem d7_54 : decode prog_63_method_5_code 54 = .ok (.aload_n 0, 1) := by decide +kernel
theorem d7_55 : decode prog_63_method_5_code 55 = .ok (.iload_n 1, 1) := by decide +kernel
theorem d7_56 : decode prog_63_method_5_code 56 = .ok (.putfield 92, 3) := by decide +kernel
theorem d7_59 : decode prog_63_method_5_code 59 = .ok (.aload_n 0, 1) := by decide +kernel
theorem d7_60 : decode prog_63_method_5_code 60 = .ok (.iconst (-1), 1) := by decide +kernel
theorem d7_61 : decode prog_63_method_5_code 61 = .ok (.putfield 60, 3) := by decide +kernel
theorem d7_64 : decode prog_63_method_5_code 64 = .ok (.return_, 1) := by decide +kernel
theorem pn_7 : plainFor (⟨"com/example/narrow_view/narrowview/StartTags", "truncate", "(I)V"⟩ : MethodName) = true := by first | exact plainFor_of_name (by first | (simp [plainName, overriddenIn]; done) | decide +kernel) | decide +kernel
theorem pd_5 : parseMethodDescriptor "(I)V" = some ⟨[.int], none⟩ := by decide +kernel
set_option maxRecDepth 65536 in
set_option maxHeartbeats 40000000 in
theorem rm_trunc (l : Launch) (Z : State) (a0 : Array Value) (hw : ∀ d ∈ tables_1, d.before a0 Z = true) (o q : Addr) (k : Int32) (ad bd : Nat → Addr) (h0 : Heap) (n0 N : Nat) (S1 : OwS Z h0 o k ad) (S2 : OwS Z h0 q 0 bd) (G : OwG n0 N o q ad bd) (z : Int32) (hz : 0 ≤ z.toInt) (hk : OwSm k) :
    OwCon l (⟨"com/example/narrow_view/narrowview/StartTags", "truncate", "(I)V"⟩ : MethodName) prog_63_method_5_code 2 none ({ frames := 0, cells := 0, slots := 0, locals := 0 } : Room) Z #[(.ref o), (.int z)] h0 (fun v h L => v = none ∧ Fr n0 L ∧ OwS Z h o (own_tr z k) ad ∧ OwS Z h q 0 bd) := by
  refine OwCon.of pn_7 (Ls := #[.val (.ref o), .val (.int z)]) (fun m => by first | (simp [entryFrame, mkF, argsToLocals, Value.category]; done) | rfl) ?_
  intro p e s m below meth c s₁ C X0 e0
  refine ow_iloadN C X0 d7_0 rfl (pc' := 1) rfl ?_
  refine ow_aloadN C X0 d7_1 rfl rfl (pc' := 2) rfl ?_
  refine ow_getF C X0 e0 (hw _ (List.mem_of_getElem? (i := 89) rfl)) S1.n0 d7_2 (pc' := 5) rfl (fun T80 X80 e80 => ?_)
  refine ow_icmp_ge C X80 d7_5 (pcT := 64) (pc' := 8) (by decide) (by decide) rfl (fun b5 => ?_) (fun b5 => ?_)
  · refine ow_retV C X80 d7_64 (Nat.le_of_ble_eq_true rfl) (Nat.le_of_ble_eq_true rfl) ?_
    rw [e80]
    rw [show own_tr z k = k from by unfold own_tr; rw [if_neg b5]]
    exact ⟨rfl, (Fr.nil n0), S1, S2⟩
  · refine ow_aloadN C X80 d7_8 rfl rfl (pc' := 9) rfl ?_
    refine ow_aloadN C X80 d7_9 rfl rfl (pc' := 10) rfl ?_
    refine ow_getF C X80 e80 (hw _ (List.mem_of_getElem? (i := 23) rfl)) S1.f3 d7_10 (pc' := 13) rfl (fun T81 X81 e81 => ?_)
    refine ow_iloadN C X81 d7_13 rfl (pc' := 14) rfl ?_
    refine ow_iaload (i := z.toNatClampNeg) C X81 e81 S1.w3 (own_tri hz hk b5).1 rfl (own_tri hz hk b5).2 (v := (.int (0 : Int32))) rfl d7_14 (pc' := 15) rfl ?_
    refine ow_putF C X81 e81 (hw _ (List.mem_of_getElem? (i := 105) rfl)) S1.n1 S1.E (Or.inl (hw _ (List.mem_of_getElem? (i := 106) rfl))) (hw _ (List.mem_of_getElem? (i := 6) rfl)) (ty := .int) (by decide) rfl rfl d7_15 (pc' := 18) rfl (fun T82 h82 X82 e82 W82 => ?_)
    have S82_o := OwS.put1 hw S1 W82 (by decide)
    have S82_q := G.kq S2 G.ol (Keep.of_wr W82)
    have N82 := Fr.snoc X82 (Fr.nil n0) G.lo
    refine ow_aloadN C X82 d7_18 rfl rfl (pc' := 19) rfl ?_
    refine ow_aloadN C X82 d7_19 rfl rfl (pc' := 20) rfl ?_
    refine ow_getF C X82 e82 (hw _ (List.mem_of_getElem? (i := 25) rfl)) S82_o.f4 d7_20 (pc' := 23) rfl (fun T83 X83 e83 => ?_)
    refine ow_iloadN C X83 d7_23 rfl (pc' := 24) rfl ?_
    refine ow_iaload (i := z.toNatClampNeg) C X83 e83 S82_o.w4 (own_tri hz hk b5).1 rfl (own_tri hz hk b5).2 (v := (.int (0 : Int32))) rfl d7_24 (pc' := 25) rfl ?_
    refine ow_putF C X83 e83 (hw _ (List.mem_of_getElem? (i := 116) rfl)) S82_o.n2 S82_o.E (Or.inl (hw _ (List.mem_of_getElem? (i := 117) rfl))) (hw _ (List.mem_of_getElem? (i := 6) rfl)) (ty := .int) (by decide) rfl rfl d7_25 (pc' := 28) rfl (fun T84 h84 X84 e84 W84 => ?_)
    have S84_o := OwS.put2 hw S82_o W84 (by decide)
    have S84_q := G.kq S82_q G.ol (Keep.of_wr W84)
    have N84 := Fr.snoc X84 N82 G.lo
    refine ow_aloadN C X84 d7_28 rfl rfl (pc' := 29) rfl ?_
    refine ow_aloadN C X84 d7_29 rfl rfl (pc' := 30) rfl ?_
    refine ow_getF C X84 e84 (hw _ (List.mem_of_getElem? (i := 116) rfl)) S84_o.n2 d7_30 (pc' := 33) rfl (fun T85 X85 e85 => ?_)
    refine ow_if_ne C X85 d7_33 (pcT := 40) (pc' := 36) (by decide) (by decide) rfl (fun bq => absurd (by decide) bq) (fun _ => ?_)
    refine ow_iconst (0 : Int32) C X85 d7_36 (by decide) (pc' := 37) rfl ?_
    refine ow_goto C X85 d7_37 (pcT := 51) (by decide) (by decide) ?_
    refine ow_putF C X85 e85 (hw _ (List.mem_of_getElem? (i := 122) rfl)) S84_o.n3 S84_o.E (Or.inl (hw _ (List.mem_of_getElem? (i := 123) rfl))) (hw _ (List.mem_of_getElem? (i := 6) rfl)) (ty := .int) (by decide) rfl rfl d7_51 (pc' := 54) rfl (fun T86 h86 X86 e86 W86 => ?_)
    have S86_o := OwS.put3 hw S84_o W86 (by decide)
    have S86_q := G.kq S84_q G.ol (Keep.of_wr W86)
    have N86 := Fr.snoc X86 N84 G.lo
    refine ow_aloadN C X86 d7_54 rfl rfl (pc' := 55) rfl ?_
    refine ow_iloadN C X86 d7_55 rfl (pc' := 56) rfl ?_
    refine ow_putF C X86 e86 (hw _ (List.mem_of_getElem? (i := 89) rfl)) S86_o.n0 S86_o.E (Or.inl (hw _ (List.mem_of_getElem? (i := 90) rfl))) (hw _ (List.mem_of_getElem? (i := 6) rfl)) (ty := .int) (by decide) rfl rfl d7_56 (pc' := 59) rfl (fun T87 h87 X87 e87 W87 => ?_)
    have S87_o := OwS.put0 hw S86_o W87
    have S87_q := G.kq S86_q G.ol (Keep.of_wr W87)
    have N87 := Fr.snoc X87 N86 G.lo
    refine ow_aloadN C X87 d7_59 rfl rfl (pc' := 60) rfl ?_
    refine ow_iconst (-1 : Int32) C X87 d7_60 (by decide) (pc' := 61) rfl ?_
    refine ow_putF C X87 e87 (hw _ (List.mem_of_getElem? (i := 49) rfl)) S87_o.n4 S87_o.E (Or.inl (hw _ (List.mem_of_getElem? (i := 50) rfl))) (hw _ (List.mem_of_getElem? (i := 6) rfl)) (ty := .int) (by decide) rfl rfl d7_61 (pc' := 64) rfl (fun T88 h88 X88 e88 W88 => ?_)
    have S88_o := OwS.put4 hw S87_o W88 (by decide)
    have S88_q := G.kq S87_q G.ol (Keep.of_wr W88)
    have N88 := Fr.snoc X88 N87 G.lo
    refine ow_retV C X88 d7_64 (Nat.le_of_ble_eq_true rfl) (Nat.le_of_ble_eq_true rfl) ?_
    rw [e88]
    rw [show own_tr z k = z from by unfold own_tr; rw [if_pos b5]]
    exact ⟨rfl, N88, S88_o, S88_q⟩
theorem d4_0 : decode prog_8_method_1_code 0 = .ok (.aload_n 0, 1) := by decide +kernel
theorem d4_1 : decode prog_8_method_1_code 1 = .ok (.invokespecial 1, 3) := by decide +kernel
theorem d4_4 : decode prog_8_method_1_code 4 = .ok (.aload_n 0, 1) := by decide +kernel
theorem d4_5 : decode prog_8_method_1_code 5 = .ok (.sipush 256, 3) := by decide +kernel
theorem d4_8 : decode prog_8_method_1_code 8 = .ok (.newarray .char, 2) := by decide +kernel
theorem d4_10 : decode prog_8_method_1_code 10 = .ok (.putfield 7, 3) := by decide +kernel
theorem d4_13 : decode prog_8_method_1_code 13 = .ok (.return_, 1) := by decide +kernel
theorem pn_4 : plainFor (⟨"com/example/narrow_view/narrowview/CharBuilder", "<init>", "()V"⟩ : MethodName) = true := by first | exact plainFor_of_name (by first | (simp [plainName, overriddenIn]; done) | decide +kernel) | decide +kernel
theorem pd_6 : parseMethodDescriptor "()V" = some ⟨[], none⟩ := by decide +kernel
set_option maxRecDepth 65536 in
set_option maxHeartbeats 40000000 in
theorem rm_cbi (l : Launch) (Z : State) (a0 : Array Value) (hw : ∀ d ∈ tables_1, d.before a0 Z = true) (o : Addr) (h0 : Heap) (n0 : Nat) (Z0 : n0 ≤ h0.size) (E0 : Exa Z h0 o "com/example/narrow_view/narrowview/CharBuilder") (v0 : Value) (F0 : Fld Z h0 o "com/example/narrow_view/narrowview/CharBuilder" "chars" "[C" v0) (g0 : n0 ≤ o) :
    OwCon l (⟨"com/example/narrow_view/narrowview/CharBuilder", "<init>", "()V"⟩ : MethodName) prog_8_method_1_code 1 none ({ frames := 1, cells := 1, slots := 256, locals := 12 } : Room) Z #[(.ref o)] h0 (fun v h L => v = none ∧ Fr n0 L ∧ Keep h0 h [o]) := by
  refine OwCon.of pn_4 (Ls := #[.val (.ref o)]) (fun m => by first | (simp [entryFrame, mkF, argsToLocals, Value.category]; done) | rfl) ?_
  intro p e s m below meth c s₁ C X0 e0
  refine ow_aloadN C X0 d4_0 rfl rfl (pc' := 1) rfl ?_
  refine ow_initO C X0 e0 (hw _ (List.mem_of_getElem? (i := 65) rfl)) (hw _ (List.mem_of_getElem? (i := 12) rfl)) (hw _ (List.mem_of_getElem? (i := 13) rfl)) rfl d4_1 (Nat.le_of_ble_eq_true rfl) (Nat.le_of_ble_eq_true rfl) (pc' := 4) rfl (fun T89 X89 e89 => ?_)
  refine ow_aloadN C X89 d4_4 rfl rfl (pc' := 5) rfl ?_
  refine ow_sipush (256 : Int32) C X89 d4_5 (by decide) (pc' := 8) rfl ?_
  refine ow_newarr C X89 e89 (hw _ (List.mem_of_getElem? (i := 46) rfl)) d4_8 (N := 256) (cap := 256) (by decide) (by decide) (Nat.le_of_ble_eq_true rfl) (Nat.le_of_ble_eq_true rfl) (Nat.le_of_ble_eq_true rfl) (Nat.le_of_ble_eq_true rfl) (pc' := 10) rfl (fun T90 h90 a90 g90 X90 e90 Ex90 A90 => ?_)
  have A90 : OwA Z h90 a90 .char 256 (fun _ => .int 0) := A90
  have lq90_o : o < a90 := Nat.lt_of_lt_of_le E0.lt (Nat.le_of_eq g90.symm)
  have E90_0 := E0.ext Ex90
  have F90_1 := F0.ext Ex90
  have Gh90 : h0.size ≤ a90 := Nat.le_trans (Keep.refl h0 [o]).1 (Nat.le_of_eq g90.symm)
  have K90 : Keep h0 h90 [o] := (Keep.refl h0 [o]).ext Ex90
  have Ge90 : n0 ≤ a90 := Nat.le_trans Z0 (Nat.le_of_eq g90.symm)
  have Z90 : n0 ≤ h90.size := Nat.le_trans Z0 Ex90.1
  refine ow_putF C X90 e90 (hw _ (List.mem_of_getElem? (i := 66) rfl)) F90_1 E90_0 (Or.inl (hw _ (List.mem_of_getElem? (i := 67) rfl))) (hw _ (List.mem_of_getElem? (i := 60) rfl)) (ty := (.array .char)) (by decide) rfl rfl d4_10 (pc' := 13) rfl (fun T91 h91 X91 e91 W91 => ?_)
  have E91_0 := E90_0.wr W91
  have F91_1 := F90_1.same W91
  have A91_a90 := A90.other W91 (Ne.symm (Nat.ne_of_lt lq90_o))
  have K91 : Keep h0 h91 [o] := K90.wr W91 (Or.inl (List.mem_singleton.mpr rfl))
  have N91 := Fr.snoc X91 (Fr.nil n0) g0
  have Z91 : n0 ≤ h91.size := by rw [W91.size]; exact Z90
  refine ow_retV C X91 d4_13 (Nat.le_of_ble_eq_true rfl) (Nat.le_of_ble_eq_true rfl) ?_
  rw [e91]
  exact ⟨rfl, N91, K91⟩
theorem d5_0 : decode prog_64_method_1_code 0 = .ok (.aload_n 0, 1) := by decide +kernel
theorem d5_1 : decode prog_64_method_1_code 1 = .ok (.aload_n 1, 1) := by decide +kernel
theorem d5_2 : decode prog_64_method_1_code 2 = .ok (.putfield 1, 3) := by decide +kernel
theorem d5_5 : decode prog_64_method_1_code 5 = .ok (.aload_n 0, 1) := by decide +kernel
theorem d5_6 : decode prog_64_method_1_code 6 = .ok (.invokespecial 7, 3) := by decide +kernel
theorem d5_9 : decode prog_64_method_1_code 9 = .ok (.return_, 1) := by decide +kernel
theorem pn_5 : plainFor (⟨"com/example/narrow_view/narrowview/StartTags$1", "<init>", "(Lcom/example/narrow_view/narrowview/StartTags;)V"⟩ : MethodName) = true := by first | exact plainFor_of_name (by first | (simp [plainName, overriddenIn]; done) | decide +kernel) | decide +kernel
theorem pd_7 : parseMethodDescriptor "(Lcom/example/narrow_view/narrowview/StartTags;)V" = some ⟨[(.object "com/example/narrow_view/narrowview/StartTags")], none⟩ := by decide +kernel
set_option maxRecDepth 65536 in
set_option maxHeartbeats 40000000 in
theorem rm_tgt (l : Launch) (Z : State) (a0 : Array Value) (hw : ∀ d ∈ tables_1, d.before a0 Z = true) (o0 : Addr) (o1 : Addr) (u_this_0_o0 : Value) (h0 : Heap) (n0 : Nat) (E_o0 : Exa Z h0 o0 "com/example/narrow_view/narrowview/StartTags$1") (g_o0 : n0 ≤ o0) (F_this_0_o0 : Fld Z h0 o0 "com/example/narrow_view/narrowview/StartTags$1" "this$0" "Lcom/example/narrow_view/narrowview/StartTags;" u_this_0_o0) :
    OwCon l (⟨"com/example/narrow_view/narrowview/StartTags$1", "<init>", "(Lcom/example/narrow_view/narrowview/StartTags;)V"⟩ : MethodName) prog_64_method_1_code 2 none ({ frames := 1, cells := 0, slots := 0, locals := 12 } : Room) Z #[(.ref o0), (.ref o1)] h0 (fun v h L => v = none ∧ Fr n0 L ∧ Keep h0 h [o0] ∧ Exa Z h o0 "com/example/narrow_view/narrowview/StartTags$1" ∧ Fld Z h o0 "com/example/narrow_view/narrowview/StartTags$1" "this$0" "Lcom/example/narrow_view/narrowview/StartTags;" (.ref o1)) := by
  refine OwCon.of pn_5 (Ls := #[.val (.ref o0), .val (.ref o1)]) (fun m => by first | (simp [entryFrame, mkF, argsToLocals, Value.category]; done) | rfl) ?_
  intro p e s m below meth c s₁ C X0 e0
  refine ow_aloadN C X0 d5_0 rfl rfl (pc' := 1) rfl ?_
  refine ow_aloadN C X0 d5_1 rfl rfl (pc' := 2) rfl ?_
  refine ow_putF C X0 e0 (hw _ (List.mem_of_getElem? (i := 76) rfl)) F_this_0_o0 E_o0 (Or.inr ⟨(hw _ (List.mem_of_getElem? (i := 77) rfl)), rfl, rfl⟩) (hw _ (List.mem_of_getElem? (i := 71) rfl)) (ty := (.object "com/example/narrow_view/narrowview/StartTags")) (by decide) rfl rfl d5_2 (pc' := 5) rfl (fun T92 h92 X92 e92 W92 => ?_)
  have E92_0 := E_o0.wr W92
  have F92_1 := F_this_0_o0.same W92
  have K92 : Keep h0 h92 [o0] := (Keep.refl h0 [o0]).wr W92 (Or.inl (List.mem_singleton.mpr rfl))
  have N92 := Fr.snoc X92 (Fr.nil n0) g_o0
  refine ow_aloadN C X92 d5_5 rfl rfl (pc' := 6) rfl ?_
  refine ow_initO C X92 e92 (hw _ (List.mem_of_getElem? (i := 78) rfl)) (hw _ (List.mem_of_getElem? (i := 12) rfl)) (hw _ (List.mem_of_getElem? (i := 13) rfl)) rfl d5_6 (Nat.le_of_ble_eq_true rfl) (Nat.le_of_ble_eq_true rfl) (pc' := 9) rfl (fun T93 X93 e93 => ?_)
  refine ow_retV C X93 d5_9 (Nat.le_of_ble_eq_true rfl) (Nat.le_of_ble_eq_true rfl) ?_
  rw [e93]
  exact ⟨rfl, N92, K92, E92_0, F92_1⟩
theorem d2_0 : decode prog_63_method_1_code 0 = .ok (.aload_n 0, 1) := by decide +kernel
theorem d2_1 : decode prog_63_method_1_code 1 = .ok (.invokespecial 1, 3) := by decide +kernel
theorem d2_4 : decode prog_63_method_1_code 4 = .ok (.aload_n 0, 1) := by decide +kernel
theorem d2_5 : decode prog_63_method_1_code 5 = .ok (.bipush 16, 2) := by decide +kernel
theorem d2_7 : decode prog_63_method_1_code 7 = .ok (.anewarray 7, 3) := by decide +kernel
theorem d2_10 : decode prog_63_method_1_code 10 = .ok (.putfield 9, 3) := by decide +kernel
theorem d2_13 : decode prog_63_method_1_code 13 = .ok (.aload_n 0, 1) := by decide +kernel
theorem d2_14 : decode prog_63_method_1_code 14 = .ok (.bipush 16, 2) := by decide +kernel
theorem d2_16 : decode prog_63_method_1_code 16 = .ok (.anewarray 7, 3) := by decide +kernel
theorem d2_19 : decode prog_63_method_1_code 19 = .ok (.putfield 15, 3) := by decide +kernel
theorem d2_22 : decode prog_63_method_1_code 22 = .ok (.aload_n 0, 1) := by decide +kernel
theorem d2_23 : decode prog_63_method_1_code 23 = .ok (.bipush 16, 2) := by decide +kernel
theorem d2_25 : decode prog_63_method_1_code 25 = .ok (.anewarray 7, 3) := by decide +kernel
theorem d2_28 : decode prog_63_method_1_code 28 = .ok (.putfield 18, 3) := by decide +kernel
theorem d2_31 : decode prog_63_method_1_code 31 = .ok (.aload_n 0, 1) := by decide +kernel
theorem d2_32 : decode prog_63_method_1_code 32 = .ok (.bipush 16, 2) := by decide +kernel
theorem d2_34 : decode prog_63_method_1_code 34 = .ok (.newarray .int, 2) := by decide +kernel
theorem d2_36 : decode prog_63_method_1_code 36 = .ok (.putfield 21, 3) := by decide +kernel
theorem d2_39 : decode prog_63_method_1_code 39 = .ok (.aload_n 0, 1) := by decide +kernel
theorem d2_40 : decode prog_63_method_1_code 40 = .ok (.bipush 16, 2) := by decide +kernel
theorem d2_42 : decode prog_63_method_1_code 42 = .ok (.newarray .int, 2) := by decide +kernel
theorem d2_44 : decode prog_63_method_1_code 44 = .ok (.putfield 25, 3) := by decide +kernel
theorem d2_47 : decode prog_63_method_1_code 47 = .ok (.aload_n 0, 1) := by decide +kernel
theorem d2_48 : decode prog_63_method_1_code 48 = .ok (.bipush 16, 2) := by decide +kernel
theorem d2_50 : decode prog_63_method_1_code 50 = .ok (.anewarray 28, 3) := by decide +kernel
theorem d2_53 : decode prog_63_method_1_code 53 = .ok (.putfield 30, 3) := by decide +kernel
theorem d2_56 : decode prog_63_method_1_code 56 = .ok (.aload_n 0, 1) := by decide +kernel
theorem d2_57 : decode prog_63_method_1_code 57 = .ok (.bipush 16, 2) := by decide +kernel
theorem d2_59 : decode prog_63_method_1_code 59 = .ok (.newarray .boolean, 2) := by decide +kernel
theorem d2_61 : decode prog_63_method_1_code 61 = .ok (.putfield 34, 3) := by decide +kernel
theorem d2_64 : decode prog_63_method_1_code 64 = .ok (.aload_n 0, 1) := by decide +kernel
theorem d2_65 : decode prog_63_method_1_code 65 = .ok (.bipush 16, 2) := by decide +kernel
theorem d2_67 : decode prog_63_method_1_code 67 = .ok (.anewarray 7, 3) := by decide +kernel
theorem d2_70 : decode prog_63_method_1_code 70 = .ok (.putfield 38, 3) := by decide +kernel
theorem d2_73 : decode prog_63_method_1_code 73 = .ok (.aload_n 0, 1) := by decide +kernel
theorem d2_74 : decode prog_63_method_1_code 74 = .ok (.bipush 16, 2) := by decide +kernel
theorem d2_76 : decode prog_63_method_1_code 76 = .ok (.anewarray 7, 3) := by decide +kernel
theorem d2_79 : decode prog_63_method_1_code 79 = .ok (.putfield 41, 3) := by decide +kernel
theorem d2_82 : decode prog_63_method_1_code 82 = .ok (.aload_n 0, 1) := by decide +kernel
theorem d2_83 : decode prog_63_method_1_code 83 = .ok (.bipush 16, 2) := by decide +kernel
theorem d2_85 : decode prog_63_method_1_code 85 = .ok (.anewarray 7, 3) := by decide +kernel
theorem d2_88 : decode prog_63_method_1_code 88 = .ok (.putfield 44, 3) := by decide +kernel
theorem d2_91 : decode prog_63_method_1_code 91 = .ok (.aload_n 0, 1) := by decide +kernel
theorem d2_92 : decode prog_63_method_1_code 92 = .ok (.bipush 16, 2) := by decide +kernel
theorem d2_94 : decode prog_63_method_1_code 94 = .ok (.anewarray 7, 3) := by decide +kernel
theorem d2_97 : decode prog_63_method_1_code 97 = .ok (.putfield 47, 3) := by decide +kernel
theorem d2_100 : decode prog_63_method_1_code 100 = .ok (.aload_n 0, 1) := by decide +kernel
theorem d2_101 : decode prog_63_method_1_code 101 = .ok (.bipush 16, 2) := by decide +kernel
theorem d2_103 : decode prog_63_method_1_code 103 = .ok (.anewarray 7, 3) := by decide +kernel
theorem d2_106 : decode prog_63_method_1_code 106 = .ok (.putfield 50, 3) := by decide +kernel
theorem d2_109 : decode prog_63_method_1_code 109 = .ok (.aload_n 0, 1) := by decide +kernel
theorem d2_110 : decode prog_63_method_1_code 110 = .ok (.bipush 16, 2) := by decide +kernel
theorem d2_112 : decode prog_63_method_1_code 112 = .ok (.newarray .int, 2) := by decide +kernel
theorem d2_114 : decode prog_63_method_1_code 114 = .ok (.putfield 53, 3) := by decide +kernel
theorem d2_117 : decode prog_63_method_1_code 117 = .ok (.aload_n 0, 1) := by decide +kernel
theorem d2_118 : decode prog_63_method_1_code 118 = .ok (.sipush 256, 3) := by decide +kernel
theorem d2_121 : decode prog_63_method_1_code 121 = .ok (.newarray .char, 2) := by decide +kernel
theorem d2_123 : decode prog_63_method_1_code 123 = .ok (.putfield 56, 3) := by decide +kernel
theorem d2_126 : decode prog_63_method_1_code 126 = .ok (.aload_n 0, 1) := by decide +kernel
theorem d2_127 : decode prog_63_method_1_code 127 = .ok (.iconst (-1), 1) := by decide +kernel
theorem d2_128 : decode prog_63_method_1_code 128 = .ok (.putfield 60, 3) := by decide +kernel
theorem d2_131 : decode prog_63_method_1_code 131 = .ok (.aload_n 0, 1) := by decide +kernel
theorem d2_132 : decode prog_63_method_1_code 132 = .ok (.bipush 16, 2) := by decide +kernel
theorem d2_134 : decode prog_63_method_1_code 134 = .ok (.anewarray 7, 3) := by decide +kernel
theorem d2_137 : decode prog_63_method_1_code 137 = .ok (.putfield 64, 3) := by decide +kernel
theorem d2_140 : decode prog_63_method_1_code 140 = .ok (.aload_n 0, 1) := by decide +kernel
theorem d2_141 : decode prog_63_method_1_code 141 = .ok (.bipush 16, 2) := by decide +kernel
theorem d2_143 : decode prog_63_method_1_code 143 = .ok (.anewarray 7, 3) := by decide +kernel
theorem d2_146 : decode prog_63_method_1_code 146 = .ok (.putfield 67, 3) := by decide +kernel
theorem d2_149 : decode prog_63_method_1_code 149 = .ok (.aload_n 0, 1) := by decide +kernel
theorem d2_150 : decode prog_63_method_1_code 150 = .ok (.bipush 16, 2) := by decide +kernel
theorem d2_152 : decode prog_63_method_1_code 152 = .ok (.anewarray 7, 3) := by decide +kernel
theorem d2_155 : decode prog_63_method_1_code 155 = .ok (.putfield 70, 3) := by decide +kernel
theorem d2_158 : decode prog_63_method_1_code 158 = .ok (.aload_n 0, 1) := by decide +kernel
theorem d2_159 : decode prog_63_method_1_code 159 = .ok (.bipush 16, 2) := by decide +kernel
theorem d2_161 : decode prog_63_method_1_code 161 = .ok (.newarray .int, 2) := by decide +kernel
theorem d2_163 : decode prog_63_method_1_code 163 = .ok (.putfield 73, 3) := by decide +kernel
theorem d2_166 : decode prog_63_method_1_code 166 = .ok (.aload_n 0, 1) := by decide +kernel
theorem d2_167 : decode prog_63_method_1_code 167 = .ok (.new 76, 3) := by decide +kernel
theorem d2_170 : decode prog_63_method_1_code 170 = .ok (.dup, 1) := by decide +kernel
theorem d2_171 : decode prog_63_method_1_code 171 = .ok (.invokespecial 78, 3) := by decide +kernel
theorem d2_174 : decode prog_63_method_1_code 174 = .ok (.putfield 79, 3) := by decide +kernel
theorem d2_177 : decode prog_63_method_1_code 177 = .ok (.aload_n 0, 1) := by decide +kernel
theorem d2_178 : decode prog_63_method_1_code 178 = .ok (.new 83, 3) := by decide +kernel
theorem d2_181 : decode prog_63_method_1_code 181 = .ok (.dup, 1) := by decide +kernel
theorem d2_182 : decode prog_63_method_1_code 182 = .ok (.aload_n 0, 1) := by decide +kernel
theorem d2_183 : decode prog_63_method_1_code 183 = .ok (.invokespecial 85, 3) := by decide +kernel
theorem d2_186 : decode prog_63_method_1_code 186 = .ok (.putfield 88, 3) := by decide +kernel
theorem d2_189 : decode prog_63_method_1_code 189 = .ok (.return_, 1) := by decide +kernel
theorem pn_2 : plainFor (⟨"com/example/narrow_view/narrowview/StartTags", "<init>", "()V"⟩ : MethodName) = true := by first | exact plainFor_of_name (by first | (simp [plainName, overriddenIn]; done) | decide +kernel) | decide +kernel
set_option maxRecDepth 65536 in
set_option maxHeartbeats 40000000 in
theorem rm_sti (l : Launch) (Z : State) (a0 : Array Value) (hw : ∀ d ∈ tables_1, d.before a0 Z = true) (o0 : Addr) (h0 : Heap) (n0 : Nat) (Z0 : n0 ≤ h0.size) (E0 : Exa Z h0 o0 "com/example/narrow_view/narrowview/StartTags") (U0 : OwU Z a0 h0 o0 "com/example/narrow_view/narrowview/StartTags" []) (g0 : n0 ≤ o0) :
    OwCon l (⟨"com/example/narrow_view/narrowview/StartTags", "<init>", "()V"⟩ : MethodName) prog_63_method_1_code 1 none ({ frames := 2, cells := 21, slots := 787, locals := 27 } : Room) Z #[(.ref o0)] h0 (fun v h L => v = none ∧ Fr n0 L ∧ Keep h0 h [o0] ∧ ∃ ad : Nat → Addr, OwS Z h o0 0 ad ∧ (∀ i j, i < 12 → j < 12 → i ≠ j → ad i ≠ ad j) ∧ ∀ j, j < 12 → h0.size ≤ ad j ∧ ad j < h.size) := by
  refine OwCon.of pn_2 (Ls := #[.val (.ref o0)]) (fun m => by first | (simp [entryFrame, mkF, argsToLocals, Value.category]; done) | rfl) ?_
  intro p e s m below meth c s₁ C X0 e0
  refine ow_aloadN C X0 d2_0 rfl rfl (pc' := 1) rfl ?_
  refine ow_initO C X0 e0 (hw _ (List.mem_of_getElem? (i := 11) rfl)) (hw _ (List.mem_of_getElem? (i := 12) rfl)) (hw _ (List.mem_of_getElem? (i := 13) rfl)) rfl d2_1 (Nat.le_of_ble_eq_true rfl) (Nat.le_of_ble_eq_true rfl) (pc' := 4) rfl (fun T94 X94 e94 => ?_)
  refine ow_aloadN C X94 d2_4 rfl rfl (pc' := 5) rfl ?_
  refine ow_bipush (16 : Int32) C X94 d2_5 (by decide) (pc' := 7) rfl ?_
  refine ow_anewO C X94 e94 (hw _ (List.mem_of_getElem? (i := 14) rfl)) (hw _ (List.mem_of_getElem? (i := 15) rfl)) d2_7 (N := 16) (cap := 16) (by decide) (by decide) (Nat.le_of_ble_eq_true rfl) (Nat.le_of_ble_eq_true rfl) (Nat.le_of_ble_eq_true rfl) (Nat.le_of_ble_eq_true rfl) (pc' := 10) rfl (fun T95 h95 a95 g95 X95 e95 Ex95 A95 => ?_)
  have lq95_o0 : o0 < a95 := Nat.lt_of_lt_of_le E0.lt (Nat.le_of_eq g95.symm)
  have E95_0 := E0.ext Ex95
  have Gh95 : h0.size ≤ a95 := Nat.le_trans (Keep.refl h0 [o0]).1 (Nat.le_of_eq g95.symm)
  have K95 : Keep h0 h95 [o0] := (Keep.refl h0 [o0]).ext Ex95
  have Ge95 : n0 ≤ a95 := Nat.le_trans Z0 (Nat.le_of_eq g95.symm)
  have Z95 : n0 ≤ h95.size := Nat.le_trans Z0 Ex95.1
  have U95 := U0.ext Ex95
  refine ow_putF C X95 e95 (hw _ (List.mem_of_getElem? (i := 16) rfl)) (U95 "com/example/narrow_view/narrowview/StartTags" "prefixes" "[Ljava/lang/String;" (.array (.object "java/lang/String")) (Or.inl (hw _ (List.mem_of_getElem? (i := 17) rfl))) (by decide) (by decide)) E95_0 (Or.inl (hw _ (List.mem_of_getElem? (i := 17) rfl))) (hw _ (List.mem_of_getElem? (i := 6) rfl)) (ty := (.array (.object "java/lang/String"))) (by decide) rfl rfl d2_10 (pc' := 13) rfl (fun T96 h96 X96 e96 W96 => ?_)
  have E96_0 := E95_0.wr W96
  have F96_1 := (U95 "com/example/narrow_view/narrowview/StartTags" "prefixes" "[Ljava/lang/String;" (.array (.object "java/lang/String")) (Or.inl (hw _ (List.mem_of_getElem? (i := 17) rfl))) (by decide) (by decide)).same W96
  have A96_a95 := A95.other W96 (Ne.symm (Nat.ne_of_lt lq95_o0))
  have K96 : Keep h0 h96 [o0] := K95.wr W96 (Or.inl (List.mem_singleton.mpr rfl))
  have N96 := Fr.snoc X96 (Fr.nil n0) g0
  have Z96 : n0 ≤ h96.size := by rw [W96.size]; exact Z95
  have U96 := OwU.put (ty := (.array (.object "java/lang/String"))) U95 W96 (Or.inl (hw _ (List.mem_of_getElem? (i := 17) rfl))) (by decide)
  refine ow_aloadN C X96 d2_13 rfl rfl (pc' := 14) rfl ?_
  refine ow_bipush (16 : Int32) C X96 d2_14 (by decide) (pc' := 16) rfl ?_
  refine ow_anewO C X96 e96 (hw _ (List.mem_of_getElem? (i := 14) rfl)) (hw _ (List.mem_of_getElem? (i := 15) rfl)) d2_16 (N := 16) (cap := 16) (by decide) (by decide) (Nat.le_of_ble_eq_true rfl) (Nat.le_of_ble_eq_true rfl) (Nat.le_of_ble_eq_true rfl) (Nat.le_of_ble_eq_true rfl) (pc' := 19) rfl (fun T97 h97 a97 g97 X97 e97 Ex97 A97 => ?_)
  have lq97_o0 : o0 < a97 := Nat.lt_of_lt_of_le E96_0.lt (Nat.le_of_eq g97.symm)
  have lq97_a95 : a95 < a97 := Nat.lt_of_lt_of_le A96_a95.lt (Nat.le_of_eq g97.symm)
  have E97_0 := E96_0.ext Ex97
  have F97_1 := F96_1.ext Ex97
  have A97_a95 := A96_a95.ext Ex97
  have Gh97 : h0.size ≤ a97 := Nat.le_trans K96.1 (Nat.le_of_eq g97.symm)
  have K97 : Keep h0 h97 [o0] := K96.ext Ex97
  have Ge97 : n0 ≤ a97 := Nat.le_trans Z96 (Nat.le_of_eq g97.symm)
  have Z97 : n0 ≤ h97.size := Nat.le_trans Z96 Ex97.1
  have U97 := U96.ext Ex97
  refine ow_putF C X97 e97 (hw _ (List.mem_of_getElem? (i := 18) rfl)) (U97 "com/example/narrow_view/narrowview/StartTags" "localNames" "[Ljava/lang/String;" (.array (.object "java/lang/String")) (Or.inl (hw _ (List.mem_of_getElem? (i := 19) rfl))) (by decide) (by decide)) E97_0 (Or.inl (hw _ (List.mem_of_getElem? (i := 19) rfl))) (hw _ (List.mem_of_getElem? (i := 6) rfl)) (ty := (.array (.object "java/lang/String"))) (by decide) rfl rfl d2_19 (pc' := 22) rfl (fun T98 h98 X98 e98 W98 => ?_)
  have E98_0 := E97_0.wr W98
  have F98_1 := F97_1.other W98 (Or.inr (slot_ne (Or.inl (hw _ (List.mem_of_getElem? (i := 17) rfl))) (Or.inl (hw _ (List.mem_of_getElem? (i := 19) rfl))) (by decide) (t := (.array (.object "java/lang/String"))) (t' := (.array (.object "java/lang/String"))) (by decide) (by decide)))
  have F98_2 := (U97 "com/example/narrow_view/narrowview/StartTags" "localNames" "[Ljava/lang/String;" (.array (.object "java/lang/String")) (Or.inl (hw _ (List.mem_of_getElem? (i := 19) rfl))) (by decide) (by decide)).same W98
  have A98_a95 := A97_a95.other W98 (Ne.symm (Nat.ne_of_lt lq95_o0))
  have A98_a97 := A97.other W98 (Ne.symm (Nat.ne_of_lt lq97_o0))
  have K98 : Keep h0 h98 [o0] := K97.wr W98 (Or.inl (List.mem_singleton.mpr rfl))
  have N98 := Fr.snoc X98 N96 g0
  have Z98 : n0 ≤ h98.size := by rw [W98.size]; exact Z97
  have U98 := OwU.put (ty := (.array (.object "java/lang/String"))) U97 W98 (Or.inl (hw _ (List.mem_of_getElem? (i := 19) rfl))) (by decide)
  refine ow_aloadN C X98 d2_22 rfl rfl (pc' := 23) rfl ?_
  refine ow_bipush (16 : Int32) C X98 d2_23 (by decide) (pc' := 25) rfl ?_
  refine ow_anewO C X98 e98 (hw _ (List.mem_of_getElem? (i := 14) rfl)) (hw _ (List.mem_of_getElem? (i := 15) rfl)) d2_25 (N := 16) (cap := 16) (by decide) (by decide) (Nat.le_of_ble_eq_true rfl) (Nat.le_of_ble_eq_true rfl) (Nat.le_of_ble_eq_true rfl) (Nat.le_of_ble_eq_true rfl) (pc' := 28) rfl (fun T99 h99 a99 g99 X99 e99 Ex99 A99 => ?_)
  have lq99_o0 : o0 < a99 := Nat.lt_of_lt_of_le E98_0.lt (Nat.le_of_eq g99.symm)
  have lq99_a95 : a95 < a99 := Nat.lt_of_lt_of_le A98_a95.lt (Nat.le_of_eq g99.symm)
  have lq99_a97 : a97 < a99 := Nat.lt_of_lt_of_le A98_a97.lt (Nat.le_of_eq g99.symm)
  have E99_0 := E98_0.ext Ex99
  have F99_1 := F98_1.ext Ex99
  have F99_2 := F98_2.ext Ex99
  have A99_a95 := A98_a95.ext Ex99
  have A99_a97 := A98_a97.ext Ex99
  have Gh99 : h0.size ≤ a99 := Nat.le_trans K98.1 (Nat.le_of_eq g99.symm)
  have K99 : Keep h0 h99 [o0] := K98.ext Ex99
  have Ge99 : n0 ≤ a99 := Nat.le_trans Z98 (Nat.le_of_eq g99.symm)
  have Z99 : n0 ≤ h99.size := Nat.le_trans Z98 Ex99.1
  have U99 := U98.ext Ex99
  refine ow_putF C X99 e99 (hw _ (List.mem_of_getElem? (i := 20) rfl)) (U99 "com/example/narrow_view/narrowview/StartTags" "namespaceUris" "[Ljava/lang/String;" (.array (.object "java/lang/String")) (Or.inl (hw _ (List.mem_of_getElem? (i := 21) rfl))) (by decide) (by decide)) E99_0 (Or.inl (hw _ (List.mem_of_getElem? (i := 21) rfl))) (hw _ (List.mem_of_getElem? (i := 6) rfl)) (ty := (.array (.object "java/lang/String"))) (by decide) rfl rfl d2_28 (pc' := 31) rfl (fun T100 h100 X100 e100 W100 => ?_)
  have E100_0 := E99_0.wr W100
  have F100_1 := F99_1.other W100 (Or.inr (slot_ne (Or.inl (hw _ (List.mem_of_getElem? (i := 17) rfl))) (Or.inl (hw _ (List.mem_of_getElem? (i := 21) rfl))) (by decide) (t := (.array (.object "java/lang/String"))) (t' := (.array (.object "java/lang/String"))) (by decide) (by decide)))
  have F100_2 := F99_2.other W100 (Or.inr (slot_ne (Or.inl (hw _ (List.mem_of_getElem? (i := 19) rfl))) (Or.inl (hw _ (List.mem_of_getElem? (i := 21) rfl))) (by decide) (t := (.array (.object "java/lang/String"))) (t' := (.array (.object "java/lang/String"))) (by decide) (by decide)))
  have F100_3 := (U99 "com/example/narrow_view/narrowview/StartTags" "namespaceUris" "[Ljava/lang/String;" (.array (.object "java/lang/String")) (Or.inl (hw _ (List.mem_of_getElem? (i := 21) rfl))) (by decide) (by decide)).same W100
  have A100_a95 := A99_a95.other W100 (Ne.symm (Nat.ne_of_lt lq95_o0))
  have A100_a97 := A99_a97.other W100 (Ne.symm (Nat.ne_of_lt lq97_o0))
  have A100_a99 := A99.other W100 (Ne.symm (Nat.ne_of_lt lq99_o0))
  have K100 : Keep h0 h100 [o0] := K99.wr W100 (Or.inl (List.mem_singleton.mpr rfl))
  have N100 := Fr.snoc X100 N98 g0
  have Z100 : n0 ≤ h100.size := by rw [W100.size]; exact Z99
  have U100 := OwU.put (ty := (.array (.object "java/lang/String"))) U99 W100 (Or.inl (hw _ (List.mem_of_getElem? (i := 21) rfl))) (by decide)
  refine ow_aloadN C X100 d2_31 rfl rfl (pc' := 32) rfl ?_
  refine ow_bipush (16 : Int32) C X100 d2_32 (by decide) (pc' := 34) rfl ?_
  refine ow_newarr C X100 e100 (hw _ (List.mem_of_getElem? (i := 22) rfl)) d2_34 (N := 16) (cap := 16) (by decide) (by decide) (Nat.le_of_ble_eq_true rfl) (Nat.le_of_ble_eq_true rfl) (Nat.le_of_ble_eq_true rfl) (Nat.le_of_ble_eq_true rfl) (pc' := 36) rfl (fun T101 h101 a101 g101 X101 e101 Ex101 A101 => ?_)
  have A101 : OwA Z h101 a101 .int 16 (fun _ => .int 0) := A101
  have lq101_o0 : o0 < a101 := Nat.lt_of_lt_of_le E100_0.lt (Nat.le_of_eq g101.symm)
  have lq101_a95 : a95 < a101 := Nat.lt_of_lt_of_le A100_a95.lt (Nat.le_of_eq g101.symm)
  have lq101_a97 : a97 < a101 := Nat.lt_of_lt_of_le A100_a97.lt (Nat.le_of_eq g101.symm)
  have lq101_a99 : a99 < a101 := Nat.lt_of_lt_of_le A100_a99.lt (Nat.le_of_eq g101.symm)
  have E101_0 := E100_0.ext Ex101
  have F101_1 := F100_1.ext Ex101
  have F101_2 := F100_2.ext Ex101
  have F101_3 := F100_3.ext Ex101
  have A101_a95 := A100_a95.ext Ex101
  have A101_a97 := A100_a97.ext Ex101
  have A101_a99 := A100_a99.ext Ex101
  have Gh101 : h0.size ≤ a101 := Nat.le_trans K100.1 (Nat.le_of_eq g101.symm)
  have K101 : Keep h0 h101 [o0] := K100.ext Ex101
  have Ge101 : n0 ≤ a101 := Nat.le_trans Z100 (Nat.le_of_eq g101.symm)
  have Z101 : n0 ≤ h101.size := Nat.le_trans Z100 Ex101.1
  have U101 := U100.ext Ex101
  refine ow_putF C X101 e101 (hw _ (List.mem_of_getElem? (i := 23) rfl)) (U101 "com/example/narrow_view/narrowview/StartTags" "firstDeclarations" "[I" (.array .int) (Or.inl (hw _ (List.mem_of_getElem? (i := 24) rfl))) (by decide) (by decide)) E101_0 (Or.inl (hw _ (List.mem_of_getElem? (i := 24) rfl))) (hw _ (List.mem_of_getElem? (i := 6) rfl)) (ty := (.array .int)) (by decide) rfl rfl d2_36 (pc' := 39) rfl (fun T102 h102 X102 e102 W102 => ?_)
  have E102_0 := E101_0.wr W102
  have F102_1 := F101_1.other W102 (Or.inr (slot_ne (Or.inl (hw _ (List.mem_of_getElem? (i := 17) rfl))) (Or.inl (hw _ (List.mem_of_getElem? (i := 24) rfl))) (by decide) (t := (.array (.object "java/lang/String"))) (t' := (.array .int)) (by decide) (by decide)))
  have F102_2 := F101_2.other W102 (Or.inr (slot_ne (Or.inl (hw _ (List.mem_of_getElem? (i := 19) rfl))) (Or.inl (hw _ (List.mem_of_getElem? (i := 24) rfl))) (by decide) (t := (.array (.object "java/lang/String"))) (t' := (.array .int)) (by decide) (by decide)))
  have F102_3 := F101_3.other W102 (Or.inr (slot_ne (Or.inl (hw _ (List.mem_of_getElem? (i := 21) rfl))) (Or.inl (hw _ (List.mem_of_getElem? (i := 24) rfl))) (by decide) (t := (.array (.object "java/lang/String"))) (t' := (.array .int)) (by decide) (by decide)))
  have F102_4 := (U101 "com/example/narrow_view/narrowview/StartTags" "firstDeclarations" "[I" (.array .int) (Or.inl (hw _ (List.mem_of_getElem? (i := 24) rfl))) (by decide) (by decide)).same W102
  have A102_a95 := A101_a95.other W102 (Ne.symm (Nat.ne_of_lt lq95_o0))
  have A102_a97 := A101_a97.other W102 (Ne.symm (Nat.ne_of_lt lq97_o0))
  have A102_a99 := A101_a99.other W102 (Ne.symm (Nat.ne_of_lt lq99_o0))
  have A102_a101 := A101.other W102 (Ne.symm (Nat.ne_of_lt lq101_o0))
  have K102 : Keep h0 h102 [o0] := K101.wr W102 (Or.inl (List.mem_singleton.mpr rfl))
  have N102 := Fr.snoc X102 N100 g0
  have Z102 : n0 ≤ h102.size := by rw [W102.size]; exact Z101
  have U102 := OwU.put (ty := (.array .int)) U101 W102 (Or.inl (hw _ (List.mem_of_getElem? (i := 24) rfl))) (by decide)
  refine ow_aloadN C X102 d2_39 rfl rfl (pc' := 40) rfl ?_
  refine ow_bipush (16 : Int32) C X102 d2_40 (by decide) (pc' := 42) rfl ?_
  refine ow_newarr C X102 e102 (hw _ (List.mem_of_getElem? (i := 22) rfl)) d2_42 (N := 16) (cap := 16) (by decide) (by decide) (Nat.le_of_ble_eq_true rfl) (Nat.le_of_ble_eq_true rfl) (Nat.le_of_ble_eq_true rfl) (Nat.le_of_ble_eq_true rfl) (pc' := 44) rfl (fun T103 h103 a103 g103 X103 e103 Ex103 A103 => ?_)
  have A103 : OwA Z h103 a103 .int 16 (fun _ => .int 0) := A103
  have lq103_o0 : o0 < a103 := Nat.lt_of_lt_of_le E102_0.lt (Nat.le_of_eq g103.symm)
  have lq103_a95 : a95 < a103 := Nat.lt_of_lt_of_le A102_a95.lt (Nat.le_of_eq g103.symm)
  have lq103_a97 : a97 < a103 := Nat.lt_of_lt_of_le A102_a97.lt (Nat.le_of_eq g103.symm)
  have lq103_a99 : a99 < a103 := Nat.lt_of_lt_of_le A102_a99.lt (Nat.le_of_eq g103.symm)
  have lq103_a101 : a101 < a103 := Nat.lt_of_lt_of_le A102_a101.lt (Nat.le_of_eq g103.symm)
  have E103_0 := E102_0.ext Ex103
  have F103_1 := F102_1.ext Ex103
  have F103_2 := F102_2.ext Ex103
  have F103_3 := F102_3.ext Ex103
  have F103_4 := F102_4.ext Ex103
  have A103_a95 := A102_a95.ext Ex103
  have A103_a97 := A102_a97.ext Ex103
  have A103_a99 := A102_a99.ext Ex103
  have A103_a101 := A102_a101.ext Ex103
  have Gh103 : h0.size ≤ a103 := Nat.le_trans K102.1 (Nat.le_of_eq g103.symm)
  have K103 : Keep h0 h103 [o0] := K102.ext Ex103
  have Ge103 : n0 ≤ a103 := Nat.le_trans Z102 (Nat.le_of_eq g103.symm)
  have Z103 : n0 ≤ h103.size := Nat.le_trans Z102 Ex103.1
  have U103 := U102.ext Ex103
  refine ow_putF C X103 e103 (hw _ (List.mem_of_getElem? (i := 25) rfl)) (U103 "com/example/narrow_view/narrowview/StartTags" "firstAttributes" "[I" (.array .int) (Or.inl (hw _ (List.mem_of_getElem? (i := 26) rfl))) (by decide) (by decide)) E103_0 (Or.inl (hw _ (List.mem_of_getElem? (i := 26) rfl))) (hw _ (List.mem_of_getElem? (i := 6) rfl)) (ty := (.array .int)) (by decide) rfl rfl d2_44 (pc' := 47) rfl (fun T104 h104 X104 e104 W104 => ?_)
  have E104_0 := E103_0.wr W104
  have F104_1 := F103_1.other W104 (Or.inr (slot_ne (Or.inl (hw _ (List.mem_of_getElem? (i := 17) rfl))) (Or.inl (hw _ (List.mem_of_getElem? (i := 26) rfl))) (by decide) (t := (.array (.object "java/lang/String"))) (t' := (.array .int)) (by decide) (by decide)))
  have F104_2 := F103_2.other W104 (Or.inr (slot_ne (Or.inl (hw _ (List.mem_of_getElem? (i := 19) rfl))) (Or.inl (hw _ (List.mem_of_getElem? (i := 26) rfl))) (by decide) (t := (.array (.object "java/lang/String"))) (t' := (.array .int)) (by decide) (by decide)))
  have F104_3 := F103_3.other W104 (Or.inr (slot_ne (Or.inl (hw _ (List.mem_of_getElem? (i := 21) rfl))) (Or.inl (hw _ (List.mem_of_getElem? (i := 26) rfl))) (by decide) (t := (.array (.object "java/lang/String"))) (t' := (.array .int)) (by decide) (by decide)))
  have F104_4 := F103_4.other W104 (Or.inr (slot_ne (Or.inl (hw _ (List.mem_of_getElem? (i := 24) rfl))) (Or.inl (hw _ (List.mem_of_getElem? (i := 26) rfl))) (by decide) (t := (.array .int)) (t' := (.array .int)) (by decide) (by decide)))
  have F104_5 := (U103 "com/example/narrow_view/narrowview/StartTags" "firstAttributes" "[I" (.array .int) (Or.inl (hw _ (List.mem_of_getElem? (i := 26) rfl))) (by decide) (by decide)).same W104
  have A104_a95 := A103_a95.other W104 (Ne.symm (Nat.ne_of_lt lq95_o0))
  have A104_a97 := A103_a97.other W104 (Ne.symm (Nat.ne_of_lt lq97_o0))
  have A104_a99 := A103_a99.other W104 (Ne.symm (Nat.ne_of_lt lq99_o0))
  have A104_a101 := A103_a101.other W104 (Ne.symm (Nat.ne_of_lt lq101_o0))
  have A104_a103 := A103.other W104 (Ne.symm (Nat.ne_of_lt lq103_o0))
  have K104 : Keep h0 h104 [o0] := K103.wr W104 (Or.inl (List.mem_singleton.mpr rfl))
  have N104 := Fr.snoc X104 N102 g0
  have Z104 : n0 ≤ h104.size := by rw [W104.size]; exact Z103
  have U104 := OwU.put (ty := (.array .int)) U103 W104 (Or.inl (hw _ (List.mem_of_getElem? (i := 26) rfl))) (by decide)
  refine ow_aloadN C X104 d2_47 rfl rfl (pc' := 48) rfl ?_
  refine ow_bipush (16 : Int32) C X104 d2_48 (by decide) (pc' := 50) rfl ?_
  refine ow_anewO C X104 e104 (hw _ (List.mem_of_getElem? (i := 27) rfl)) (hw _ (List.mem_of_getElem? (i := 28) rfl)) d2_50 (N := 16) (cap := 16) (by decide) (by decide) (Nat.le_of_ble_eq_true rfl) (Nat.le_of_ble_eq_true rfl) (Nat.le_of_ble_eq_true rfl) (Nat.le_of_ble_eq_true rfl) (pc' := 53) rfl (fun T105 h105 a105 g105 X105 e105 Ex105 A105 => ?_)
  have lq105_o0 : o0 < a105 := Nat.lt_of_lt_of_le E104_0.lt (Nat.le_of_eq g105.symm)
  have lq105_a95 : a95 < a105 := Nat.lt_of_lt_of_le A104_a95.lt (Nat.le_of_eq g105.symm)
  have lq105_a97 : a97 < a105 := Nat.lt_of_lt_of_le A104_a97.lt (Nat.le_of_eq g105.symm)
  have lq105_a99 : a99 < a105 := Nat.lt_of_lt_of_le A104_a99.lt (Nat.le_of_eq g105.symm)
  have lq105_a101 : a101 < a105 := Nat.lt_of_lt_of_le A104_a101.lt (Nat.le_of_eq g105.symm)
  have lq105_a103 : a103 < a105 := Nat.lt_of_lt_of_le A104_a103.lt (Nat.le_of_eq g105.symm)
  have E105_0 := E104_0.ext Ex105
  have F105_1 := F104_1.ext Ex105
  have F105_2 := F104_2.ext Ex105
  have F105_3 := F104_3.ext Ex105
  have F105_4 := F104_4.ext Ex105
  have F105_5 := F104_5.ext Ex105
  have A105_a95 := A104_a95.ext Ex105
  have A105_a97 := A104_a97.ext Ex105
  have A105_a99 := A104_a99.ext Ex105
  have A105_a101 := A104_a101.ext Ex105
  have A105_a103 := A104_a103.ext Ex105
  have Gh105 : h0.size ≤ a105 := Nat.le_trans K104.1 (Nat.le_of_eq g105.symm)
  have K105 : Keep h0 h105 [o0] := K104.ext Ex105
  have Ge105 : n0 ≤ a105 := Nat.le_trans Z104 (Nat.le_of_eq g105.symm)
  have Z105 : n0 ≤ h105.size := Nat.le_trans Z104 Ex105.1
  have U105 := U104.ext Ex105
  refine ow_putF C X105 e105 (hw _ (List.mem_of_getElem? (i := 29) rfl)) (U105 "com/example/narrow_view/narrowview/StartTags" "tagDefaults" "[Lcom/example/narrow_view/narrowview/TagDefaults;" (.array (.object "com/example/narrow_view/narrowview/TagDefaults")) (Or.inl (hw _ (List.mem_of_getElem? (i := 30) rfl))) (by decide) (by decide)) E105_0 (Or.inl (hw _ (List.mem_of_getElem? (i := 30) rfl))) (hw _ (List.mem_of_getElem? (i := 6) rfl)) (ty := (.array (.object "com/example/narrow_view/narrowview/TagDefaults"))) (by decide) rfl rfl d2_53 (pc' := 56) rfl (fun T106 h106 X106 e106 W106 => ?_)
  have E106_0 := E105_0.wr W106
  have F106_1 := F105_1.other W106 (Or.inr (slot_ne (Or.inl (hw _ (List.mem_of_getElem? (i := 17) rfl))) (Or.inl (hw _ (List.mem_of_getElem? (i := 30) rfl))) (by decide) (t := (.array (.object "java/lang/String"))) (t' := (.array (.object "com/example/narrow_view/narrowview/TagDefaults"))) (by decide) (by decide)))
  have F106_2 := F105_2.other W106 (Or.inr (slot_ne (Or.inl (hw _ (List.mem_of_getElem? (i := 19) rfl))) (Or.inl (hw _ (List.mem_of_getElem? (i := 30) rfl))) (by decide) (t := (.array (.object "java/lang/String"))) (t' := (.array (.object "com/example/narrow_view/narrowview/TagDefaults"))) (by decide) (by decide)))
  have F106_3 := F105_3.other W106 (Or.inr (slot_ne (Or.inl (hw _ (List.mem_of_getElem? (i := 21) rfl))) (Or.inl (hw _ (List.mem_of_getElem? (i := 30) rfl))) (by decide) (t := (.array (.object "java/lang/String"))) (t' := (.array (.object "com/example/narrow_view/narrowview/TagDefaults"))) (by decide) (by decide)))
  have F106_4 := F105_4.other W106 (Or.inr (slot_ne (Or.inl (hw _ (List.mem_of_getElem? (i := 24) rfl))) (Or.inl (hw _ (List.mem_of_getElem? (i := 30) rfl))) (by decide) (t := (.array .int)) (t' := (.array (.object "com/example/narrow_view/narrowview/TagDefaults"))) (by decide) (by decide)))
  have F106_5 := F105_5.other W106 (Or.inr (slot_ne (Or.inl (hw _ (List.mem_of_getElem? (i := 26) rfl))) (Or.inl (hw _ (List.mem_of_getElem? (i := 30) rfl))) (by decide) (t := (.array .int)) (t' := (.array (.object "com/example/narrow_view/narrowview/TagDefaults"))) (by decide) (by decide)))
  have F106_6 := (U105 "com/example/narrow_view/narrowview/StartTags" "tagDefaults" "[Lcom/example/narrow_view/narrowview/TagDefaults;" (.array (.object "com/example/narrow_view/narrowview/TagDefaults")) (Or.inl (hw _ (List.mem_of_getElem? (i := 30) rfl))) (by decide) (by decide)).same W106
  have A106_a95 := A105_a95.other W106 (Ne.symm (Nat.ne_of_lt lq95_o0))
  have A106_a97 := A105_a97.other W106 (Ne.symm (Nat.ne_of_lt lq97_o0))
  have A106_a99 := A105_a99.other W106 (Ne.symm (Nat.ne_of_lt lq99_o0))
  have A106_a101 := A105_a101.other W106 (Ne.symm (Nat.ne_of_lt lq101_o0))
  have A106_a103 := A105_a103.other W106 (Ne.symm (Nat.ne_of_lt lq103_o0))
  have A106_a105 := A105.other W106 (Ne.symm (Nat.ne_of_lt lq105_o0))
  have K106 : Keep h0 h106 [o0] := K105.wr W106 (Or.inl (List.mem_singleton.mpr rfl))
  have N106 := Fr.snoc X106 N104 g0
  have Z106 : n0 ≤ h106.size := by rw [W106.size]; exact Z105
  have U106 := OwU.put (ty := (.array (.object "com/example/narrow_view/narrowview/TagDefaults"))) U105 W106 (Or.inl (hw _ (List.mem_of_getElem? (i := 30) rfl))) (by decide)
  refine ow_aloadN C X106 d2_56 rfl rfl (pc' := 57) rfl ?_
  refine ow_bipush (16 : Int32) C X106 d2_57 (by decide) (pc' := 59) rfl ?_
  refine ow_newarr C X106 e106 (hw _ (List.mem_of_getElem? (i := 31) rfl)) d2_59 (N := 16) (cap := 16) (by decide) (by decide) (Nat.le_of_ble_eq_true rfl) (Nat.le_of_ble_eq_true rfl) (Nat.le_of_ble_eq_true rfl) (Nat.le_of_ble_eq_true rfl) (pc' := 61) rfl (fun T107 h107 a107 g107 X107 e107 Ex107 A107 => ?_)
  have A107 : OwA Z h107 a107 .boolean 16 (fun _ => .int 0) := A107
  have lq107_o0 : o0 < a107 := Nat.lt_of_lt_of_le E106_0.lt (Nat.le_of_eq g107.symm)
  have lq107_a95 : a95 < a107 := Nat.lt_of_lt_of_le A106_a95.lt (Nat.le_of_eq g107.symm)
  have lq107_a97 : a97 < a107 := Nat.lt_of_lt_of_le A106_a97.lt (Nat.le_of_eq g107.symm)
  have lq107_a99 : a99 < a107 := Nat.lt_of_lt_of_le A106_a99.lt (Nat.le_of_eq g107.symm)
  have lq107_a101 : a101 < a107 := Nat.lt_of_lt_of_le A106_a101.lt (Nat.le_of_eq g107.symm)
  have lq107_a103 : a103 < a107 := Nat.lt_of_lt_of_le A106_a103.lt (Nat.le_of_eq g107.symm)
  have E107_0 := E106_0.ext Ex107
  have F107_1 := F106_1.ext Ex107
  have F107_2 := F106_2.ext Ex107
  have F107_3 := F106_3.ext Ex107
  have F107_4 := F106_4.ext Ex107
  have F107_5 := F106_5.ext Ex107
  have A107_a95 := A106_a95.ext Ex107
  have A107_a97 := A106_a97.ext Ex107
  have A107_a99 := A106_a99.ext Ex107
  have A107_a101 := A106_a101.ext Ex107
  have A107_a103 := A106_a103.ext Ex107
  have Gh107 : h0.size ≤ a107 := Nat.le_trans K106.1 (Nat.le_of_eq g107.symm)
  have K107 : Keep h0 h107 [o0] := K106.ext Ex107
  have Ge107 : n0 ≤ a107 := Nat.le_trans Z106 (Nat.le_of_eq g107.symm)
  have Z107 : n0 ≤ h107.size := Nat.le_trans Z106 Ex107.1
  have U107 := U106.ext Ex107
  refine ow_putF C X107 e107 (hw _ (List.mem_of_getElem? (i := 32) rfl)) (U107 "com/example/narrow_view/narrowview/StartTags" "takesDefaults" "[Z" (.array .boolean) (Or.inl (hw _ (List.mem_of_getElem? (i := 33) rfl))) (by decide) (by decide)) E107_0 (Or.inl (hw _ (List.mem_of_getElem? (i := 33) rfl))) (hw _ (List.mem_of_getElem? (i := 6) rfl)) (ty := (.array .boolean)) (by decide) rfl rfl d2_61 (pc' := 64) rfl (fun T108 h108 X108 e108 W108 => ?_)
  have E108_0 := E107_0.wr W108
  have F108_1 := F107_1.other W108 (Or.inr (slot_ne (Or.inl (hw _ (List.mem_of_getElem? (i := 17) rfl))) (Or.inl (hw _ (List.mem_of_getElem? (i := 33) rfl))) (by decide) (t := (.array (.object "java/lang/String"))) (t' := (.array .boolean)) (by decide) (by decide)))
  have F108_2 := F107_2.other W108 (Or.inr (slot_ne (Or.inl (hw _ (List.mem_of_getElem? (i := 19) rfl))) (Or.inl (hw _ (List.mem_of_getElem? (i := 33) rfl))) (by decide) (t := (.array (.object "java/lang/String"))) (t' := (.array .boolean)) (by decide) (by decide)))
  have F108_3 := F107_3.other W108 (Or.inr (slot_ne (Or.inl (hw _ (List.mem_of_getElem? (i := 21) rfl))) (Or.inl (hw _ (List.mem_of_getElem? (i := 33) rfl))) (by decide) (t := (.array (.object "java/lang/String"))) (t' := (.array .boolean)) (by decide) (by decide)))
  have F108_4 := F107_4.other W108 (Or.inr (slot_ne (Or.inl (hw _ (List.mem_of_getElem? (i := 24) rfl))) (Or.inl (hw _ (List.mem_of_getElem? (i := 33) rfl))) (by decide) (t := (.array .int)) (t' := (.array .boolean)) (by decide) (by decide)))
  have F108_5 := F107_5.other W108 (Or.inr (slot_ne (Or.inl (hw _ (List.mem_of_getElem? (i := 26) rfl))) (Or.inl (hw _ (List.mem_of_getElem? (i := 33) rfl))) (by decide) (t := (.array .int)) (t' := (.array .boolean)) (by decide) (by decide)))
  have F108_6 := (U107 "com/example/narrow_view/narrowview/StartTags" "takesDefaults" "[Z" (.array .boolean) (Or.inl (hw _ (List.mem_of_getElem? (i := 33) rfl))) (by decide) (by decide)).same W108
  have A108_a95 := A107_a95.other W108 (Ne.symm (Nat.ne_of_lt lq95_o0))
  have A108_a97 := A107_a97.other W108 (Ne.symm (Nat.ne_of_lt lq97_o0))
  have A108_a99 := A107_a99.other W108 (Ne.symm (Nat.ne_of_lt lq99_o0))
  have A108_a101 := A107_a101.other W108 (Ne.symm (Nat.ne_of_lt lq101_o0))
  have A108_a103 := A107_a103.other W108 (Ne.symm (Nat.ne_of_lt lq103_o0))
  have A108_a107 := A107.other W108 (Ne.symm (Nat.ne_of_lt lq107_o0))
  have K108 : Keep h0 h108 [o0] := K107.wr W108 (Or.inl (List.mem_singleton.mpr rfl))
  have N108 := Fr.snoc X108 N106 g0
  have Z108 : n0 ≤ h108.size := by rw [W108.size]; exact Z107
  have U108 := OwU.put (ty := (.array .boolean)) U107 W108 (Or.inl (hw _ (List.mem_of_getElem? (i := 33) rfl))) (by decide)
  refine ow_aloadN C X108 d2_64 rfl rfl (pc' := 65) rfl ?_
  refine ow_bipush (16 : Int32) C X108 d2_65 (by decide) (pc' := 67) rfl ?_
  refine ow_anewO C X108 e108 (hw _ (List.mem_of_getElem? (i := 14) rfl)) (hw _ (List.mem_of_getElem? (i := 15) rfl)) d2_67 (N := 16) (cap := 16) (by decide) (by decide) (Nat.le_of_ble_eq_true rfl) (Nat.le_of_ble_eq_true rfl) (Nat.le_of_ble_eq_true rfl) (Nat.le_of_ble_eq_true rfl) (pc' := 70) rfl (fun T109 h109 a109 g109 X109 e109 Ex109 A109 => ?_)
  have lq109_o0 : o0 < a109 := Nat.lt_of_lt_of_le E108_0.lt (Nat.le_of_eq g109.symm)
  have lq109_a95 : a95 < a109 := Nat.lt_of_lt_of_le A108_a95.lt (Nat.le_of_eq g109.symm)
  have lq109_a97 : a97 < a109 := Nat.lt_of_lt_of_le A108_a97.lt (Nat.le_of_eq g109.symm)
  have lq109_a99 : a99 < a109 := Nat.lt_of_lt_of_le A108_a99.lt (Nat.le_of_eq g109.symm)
  have lq109_a101 : a101 < a109 := Nat.lt_of_lt_of_le A108_a101.lt (Nat.le_of_eq g109.symm)
  have lq109_a103 : a103 < a109 := Nat.lt_of_lt_of_le A108_a103.lt (Nat.le_of_eq g109.symm)
  have lq109_a107 : a107 < a109 := Nat.lt_of_lt_of_le A108_a107.lt (Nat.le_of_eq g109.symm)
  have E109_0 := E108_0.ext Ex109
  have F109_1 := F108_1.ext Ex109
  have F109_2 := F108_2.ext Ex109
  have F109_3 := F108_3.ext Ex109
  have F109_4 := F108_4.ext Ex109
  have F109_5 := F108_5.ext Ex109
  have F109_6 := F108_6.ext Ex109
  have A109_a95 := A108_a95.ext Ex109
  have A109_a97 := A108_a97.ext Ex109
  have A109_a99 := A108_a99.ext Ex109
  have A109_a101 := A108_a101.ext Ex109
  have A109_a103 := A108_a103.ext Ex109
  have A109_a107 := A108_a107.ext Ex109
  have Gh109 : h0.size ≤ a109 := Nat.le_trans K108.1 (Nat.le_of_eq g109.symm)
  have K109 : Keep h0 h109 [o0] := K108.ext Ex109
  have Ge109 : n0 ≤ a109 := Nat.le_trans Z108 (Nat.le_of_eq g109.symm)
  have Z109 : n0 ≤ h109.size := Nat.le_trans Z108 Ex109.1
  have U109 := U108.ext Ex109
  refine ow_putF C X109 e109 (hw _ (List.mem_of_getElem? (i := 34) rfl)) (U109 "com/example/narrow_view/narrowview/StartTags" "declaredPrefixes" "[Ljava/lang/String;" (.array (.object "java/lang/String")) (Or.inl (hw _ (List.mem_of_getElem? (i := 35) rfl))) (by decide) (by decide)) E109_0 (Or.inl (hw _ (List.mem_of_getElem? (i := 35) rfl))) (hw _ (List.mem_of_getElem? (i := 6) rfl)) (ty := (.array (.object "java/lang/String"))) (by decide) rfl rfl d2_70 (pc' := 73) rfl (fun T110 h110 X110 e110 W110 => ?_)
  have E110_0 := E109_0.wr W110
  have F110_1 := F109_1.other W110 (Or.inr (slot_ne (Or.inl (hw _ (List.mem_of_getElem? (i := 17) rfl))) (Or.inl (hw _ (List.mem_of_getElem? (i := 35) rfl))) (by decide) (t := (.array (.object "java/lang/String"))) (t' := (.array (.object "java/lang/String"))) (by decide) (by decide)))
  have F110_2 := F109_2.other W110 (Or.inr (slot_ne (Or.inl (hw _ (List.mem_of_getElem? (i := 19) rfl))) (Or.inl (hw _ (List.mem_of_getElem? (i := 35) rfl))) (by decide) (t := (.array (.object "java/lang/String"))) (t' := (.array (.object "java/lang/String"))) (by decide) (by decide)))
  have F110_3 := F109_3.other W110 (Or.inr (slot_ne (Or.inl (hw _ (List.mem_of_getElem? (i := 21) rfl))) (Or.inl (hw _ (List.mem_of_getElem? (i := 35) rfl))) (by decide) (t := (.array (.object "java/lang/String"))) (t' := (.array (.object "java/lang/String"))) (by decide) (by decide)))
  have F110_4 := F109_4.other W110 (Or.inr (slot_ne (Or.inl (hw _ (List.mem_of_getElem? (i := 24) rfl))) (Or.inl (hw _ (List.mem_of_getElem? (i := 35) rfl))) (by decide) (t := (.array .int)) (t' := (.array (.object "java/lang/String"))) (by decide) (by decide)))
  have F110_5 := F109_5.other W110 (Or.inr (slot_ne (Or.inl (hw _ (List.mem_of_getElem? (i := 26) rfl))) (Or.inl (hw _ (List.mem_of_getElem? (i := 35) rfl))) (by decide) (t := (.array .int)) (t' := (.array (.object "java/lang/String"))) (by decide) (by decide)))
  have F110_6 := F109_6.other W110 (Or.inr (slot_ne (Or.inl (hw _ (List.mem_of_getElem? (i := 33) rfl))) (Or.inl (hw _ (List.mem_of_getElem? (i := 35) rfl))) (by decide) (t := (.array .boolean)) (t' := (.array (.object "java/lang/String"))) (by decide) (by decide)))
  have F110_7 := (U109 "com/example/narrow_view/narrowview/StartTags" "declaredPrefixes" "[Ljava/lang/String;" (.array (.object "java/lang/String")) (Or.inl (hw _ (List.mem_of_getElem? (i := 35) rfl))) (by decide) (by decide)).same W110
  have A110_a95 := A109_a95.other W110 (Ne.symm (Nat.ne_of_lt lq95_o0))
  have A110_a97 := A109_a97.other W110 (Ne.symm (Nat.ne_of_lt lq97_o0))
  have A110_a99 := A109_a99.other W110 (Ne.symm (Nat.ne_of_lt lq99_o0))
  have A110_a101 := A109_a101.other W110 (Ne.symm (Nat.ne_of_lt lq101_o0))
  have A110_a103 := A109_a103.other W110 (Ne.symm (Nat.ne_of_lt lq103_o0))
  have A110_a107 := A109_a107.other W110 (Ne.symm (Nat.ne_of_lt lq107_o0))
  have A110_a109 := A109.other W110 (Ne.symm (Nat.ne_of_lt lq109_o0))
  have K110 : Keep h0 h110 [o0] := K109.wr W110 (Or.inl (List.mem_singleton.mpr rfl))
  have N110 := Fr.snoc X110 N108 g0
  have Z110 : n0 ≤ h110.size := by rw [W110.size]; exact Z109
  have U110 := OwU.put (ty := (.array (.object "java/lang/String"))) U109 W110 (Or.inl (hw _ (List.mem_of_getElem? (i := 35) rfl))) (by decide)
  refine ow_aloadN C X110 d2_73 rfl rfl (pc' := 74) rfl ?_
  refine ow_bipush (16 : Int32) C X110 d2_74 (by decide) (pc' := 76) rfl ?_
  refine ow_anewO C X110 e110 (hw _ (List.mem_of_getElem? (i := 14) rfl)) (hw _ (List.mem_of_getElem? (i := 15) rfl)) d2_76 (N := 16) (cap := 16) (by decide) (by decide) (Nat.le_of_ble_eq_true rfl) (Nat.le_of_ble_eq_true rfl) (Nat.le_of_ble_eq_true rfl) (Nat.le_of_ble_eq_true rfl) (pc' := 79) rfl (fun T111 h111 a111 g111 X111 e111 Ex111 A111 => ?_)
  have lq111_o0 : o0 < a111 := Nat.lt_of_lt_of_le E110_0.lt (Nat.le_of_eq g111.symm)
  have lq111_a95 : a95 < a111 := Nat.lt_of_lt_of_le A110_a95.lt (Nat.le_of_eq g111.symm)
  have lq111_a97 : a97 < a111 := Nat.lt_of_lt_of_le A110_a97.lt (Nat.le_of_eq g111.symm)
  have lq111_a99 : a99 < a111 := Nat.lt_of_lt_of_le A110_a99.lt (Nat.le_of_eq g111.symm)
  have lq111_a101 : a101 < a111 := Nat.lt_of_lt_of_le A110_a101.lt (Nat.le_of_eq g111.symm)
  have lq111_a103 : a103 < a111 := Nat.lt_of_lt_of_le A110_a103.lt (Nat.le_of_eq g111.symm)
  have lq111_a107 : a107 < a111 := Nat.lt_of_lt_of_le A110_a107.lt (Nat.le_of_eq g111.symm)
  have lq111_a109 : a109 < a111 := Nat.lt_of_lt_of_le A110_a109.lt (Nat.le_of_eq g111.symm)
  have E111_0 := E110_0.ext Ex111
  have F111_1 := F110_1.ext Ex111
  have F111_2 := F110_2.ext Ex111
  have F111_3 := F110_3.ext Ex111
  have F111_4 := F110_4.ext Ex111
  have F111_5 := F110_5.ext Ex111
  have F111_6 := F110_6.ext Ex111
  have F111_7 := F110_7.ext Ex111
  have A111_a95 := A110_a95.ext Ex111
  have A111_a97 := A110_a97.ext Ex111
  have A111_a99 := A110_a99.ext Ex111
  have A111_a101 := A110_a101.ext Ex111
  have A111_a103 := A110_a103.ext Ex111
  have A111_a107 := A110_a107.ext Ex111
  have A111_a109 := A110_a109.ext Ex111
  have Gh111 : h0.size ≤ a111 := Nat.le_trans K110.1 (Nat.le_of_eq g111.symm)
  have K111 : Keep h0 h111 [o0] := K110.ext Ex111
  have Ge111 : n0 ≤ a111 := Nat.le_trans Z110 (Nat.le_of_eq g111.symm)
  have Z111 : n0 ≤ h111.size := Nat.le_trans Z110 Ex111.1
  have U111 := U110.ext Ex111
  refine ow_putF C X111 e111 (hw _ (List.mem_of_getElem? (i := 36) rfl)) (U111 "com/example/narrow_view/narrowview/StartTags" "declaredUris" "[Ljava/lang/String;" (.array (.object "java/lang/String")) (Or.inl (hw _ (List.mem_of_getElem? (i := 37) rfl))) (by decide) (by decide)) E111_0 (Or.inl (hw _ (List.mem_of_getElem? (i := 37) rfl))) (hw _ (List.mem_of_getElem? (i := 6) rfl)) (ty := (.array (.object "java/lang/String"))) (by decide) rfl rfl d2_79 (pc' := 82) rfl (fun T112 h112 X112 e112 W112 => ?_)
  have E112_0 := E111_0.wr W112
  have F112_1 := F111_1.other W112 (Or.inr (slot_ne (Or.inl (hw _ (List.mem_of_getElem? (i := 17) rfl))) (Or.inl (hw _ (List.mem_of_getElem? (i := 37) rfl))) (by decide) (t := (.array (.object "java/lang/String"))) (t' := (.array (.object "java/lang/String"))) (by decide) (by decide)))
  have F112_2 := F111_2.other W112 (Or.inr (slot_ne (Or.inl (hw _ (List.mem_of_getElem? (i := 19) rfl))) (Or.inl (hw _ (List.mem_of_getElem? (i := 37) rfl))) (by decide) (t := (.array (.object "java/lang/String"))) (t' := (.array (.object "java/lang/String"))) (by decide) (by decide)))
  have F112_3 := F111_3.other W112 (Or.inr (slot_ne (Or.inl (hw _ (List.mem_of_getElem? (i := 21) rfl))) (Or.inl (hw _ (List.mem_of_getElem? (i := 37) rfl))) (by decide) (t := (.array (.object "java/lang/String"))) (t' := (.array (.object "java/lang/String"))) (by decide) (by decide)))
  have F112_4 := F111_4.other W112 (Or.inr (slot_ne (Or.inl (hw _ (List.mem_of_getElem? (i := 24) rfl))) (Or.inl (hw _ (List.mem_of_getElem? (i := 37) rfl))) (by decide) (t := (.array .int)) (t' := (.array (.object "java/lang/String"))) (by decide) (by decide)))
  have F112_5 := F111_5.other W112 (Or.inr (slot_ne (Or.inl (hw _ (List.mem_of_getElem? (i := 26) rfl))) (Or.inl (hw _ (List.mem_of_getElem? (i := 37) rfl))) (by decide) (t := (.array .int)) (t' := (.array (.object "java/lang/String"))) (by decide) (by decide)))
  have F112_6 := F111_6.other W112 (Or.inr (slot_ne (Or.inl (hw _ (List.mem_of_getElem? (i := 33) rfl))) (Or.inl (hw _ (List.mem_of_getElem? (i := 37) rfl))) (by decide) (t := (.array .boolean)) (t' := (.array (.object "java/lang/String"))) (by decide) (by decide)))
  have F112_7 := F111_7.other W112 (Or.inr (slot_ne (Or.inl (hw _ (List.mem_of_getElem? (i := 35) rfl))) (Or.inl (hw _ (List.mem_of_getElem? (i := 37) rfl))) (by decide) (t := (.array (.object "java/lang/String"))) (t' := (.array (.object "java/lang/String"))) (by decide) (by decide)))
  have F112_8 := (U111 "com/example/narrow_view/narrowview/StartTags" "declaredUris" "[Ljava/lang/String;" (.array (.object "java/lang/String")) (Or.inl (hw _ (List.mem_of_getElem? (i := 37) rfl))) (by decide) (by decide)).same W112
  have A112_a95 := A111_a95.other W112 (Ne.symm (Nat.ne_of_lt lq95_o0))
  have A112_a97 := A111_a97.other W112 (Ne.symm (Nat.ne_of_lt lq97_o0))
  have A112_a99 := A111_a99.other W112 (Ne.symm (Nat.ne_of_lt lq99_o0))
  have A112_a101 := A111_a101.other W112 (Ne.symm (Nat.ne_of_lt lq101_o0))
  have A112_a103 := A111_a103.other W112 (Ne.symm (Nat.ne_of_lt lq103_o0))
  have A112_a107 := A111_a107.other W112 (Ne.symm (Nat.ne_of_lt lq107_o0))
  have A112_a109 := A111_a109.other W112 (Ne.symm (Nat.ne_of_lt lq109_o0))
  have A112_a111 := A111.other W112 (Ne.symm (Nat.ne_of_lt lq111_o0))
  have K112 : Keep h0 h112 [o0] := K111.wr W112 (Or.inl (List.mem_singleton.mpr rfl))
  have N112 := Fr.snoc X112 N110 g0
  have Z112 : n0 ≤ h112.size := by rw [W112.size]; exact Z111
  have U112 := OwU.put (ty := (.array (.object "java/lang/String"))) U111 W112 (Or.inl (hw _ (List.mem_of_getElem? (i := 37) rfl))) (by decide)
  refine ow_aloadN C X112 d2_82 rfl rfl (pc' := 83) rfl ?_
  refine ow_bipush (16 : Int32) C X112 d2_83 (by decide) (pc' := 85) rfl ?_
  refine ow_anewO C X112 e112 (hw _ (List.mem_of_getElem? (i := 14) rfl)) (hw _ (List.mem_of_getElem? (i := 15) rfl)) d2_85 (N := 16) (cap := 16) (by decide) (by decide) (Nat.le_of_ble_eq_true rfl) (Nat.le_of_ble_eq_true rfl) (Nat.le_of_ble_eq_true rfl) (Nat.le_of_ble_eq_true rfl) (pc' := 88) rfl (fun T113 h113 a113 g113 X113 e113 Ex113 A113 => ?_)
  have lq113_o0 : o0 < a113 := Nat.lt_of_lt_of_le E112_0.lt (Nat.le_of_eq g113.symm)
  have lq113_a95 : a95 < a113 := Nat.lt_of_lt_of_le A112_a95.lt (Nat.le_of_eq g113.symm)
  have lq113_a97 : a97 < a113 := Nat.lt_of_lt_of_le A112_a97.lt (Nat.le_of_eq g113.symm)
  have lq113_a99 : a99 < a113 := Nat.lt_of_lt_of_le A112_a99.lt (Nat.le_of_eq g113.symm)
  have lq113_a101 : a101 < a113 := Nat.lt_of_lt_of_le A112_a101.lt (Nat.le_of_eq g113.symm)
  have lq113_a103 : a103 < a113 := Nat.lt_of_lt_of_le A112_a103.lt (Nat.le_of_eq g113.symm)
  have lq113_a107 : a107 < a113 := Nat.lt_of_lt_of_le A112_a107.lt (Nat.le_of_eq g113.symm)
  have lq113_a109 : a109 < a113 := Nat.lt_of_lt_of_le A112_a109.lt (Nat.le_of_eq g113.symm)
  have lq113_a111 : a111 < a113 := Nat.lt_of_lt_of_le A112_a111.lt (Nat.le_of_eq g113.symm)
  have E113_0 := E112_0.ext Ex113
  have F113_1 := F112_1.ext Ex113
  have F113_2 := F112_2.ext Ex113
  have F113_3 := F112_3.ext Ex113
  have F113_4 := F112_4.ext Ex113
  have F113_5 := F112_5.ext Ex113
  have F113_6 := F112_6.ext Ex113
  have F113_7 := F112_7.ext Ex113
  have F113_8 := F112_8.ext Ex113
  have A113_a95 := A112_a95.ext Ex113
  have A113_a97 := A112_a97.ext Ex113
  have A113_a99 := A112_a99.ext Ex113
  have A113_a101 := A112_a101.ext Ex113
  have A113_a103 := A112_a103.ext Ex113
  have A113_a107 := A112_a107.ext Ex113
  have A113_a109 := A112_a109.ext Ex113
  have A113_a111 := A112_a111.ext Ex113
  have Gh113 : h0.size ≤ a113 := Nat.le_trans K112.1 (Nat.le_of_eq g113.symm)
  have K113 : Keep h0 h113 [o0] := K112.ext Ex113
  have Ge113 : n0 ≤ a113 := Nat.le_trans Z112 (Nat.le_of_eq g113.symm)
  have Z113 : n0 ≤ h113.size := Nat.le_trans Z112 Ex113.1
  have U113 := U112.ext Ex113
  refine ow_putF C X113 e113 (hw _ (List.mem_of_getElem? (i := 38) rfl)) (U113 "com/example/narrow_view/narrowview/StartTags" "attributeNamespaces" "[Ljava/lang/String;" (.array (.object "java/lang/String")) (Or.inl (hw _ (List.mem_of_getElem? (i := 39) rfl))) (by decide) (by decide)) E113_0 (Or.inl (hw _ (List.mem_of_getElem? (i := 39) rfl))) (hw _ (List.mem_of_getElem? (i := 6) rfl)) (ty := (.array (.object "java/lang/String"))) (by decide) rfl rfl d2_88 (pc' := 91) rfl (fun T114 h114 X114 e114 W114 => ?_)
  have E114_0 := E113_0.wr W114
  have F114_1 := F113_1.other W114 (Or.inr (slot_ne (Or.inl (hw _ (List.mem_of_getElem? (i := 17) rfl))) (Or.inl (hw _ (List.mem_of_getElem? (i := 39) rfl))) (by decide) (t := (.array (.object "java/lang/String"))) (t' := (.array (.object "java/lang/String"))) (by decide) (by decide)))
  have F114_2 := F113_2.other W114 (Or.inr (slot_ne (Or.inl (hw _ (List.mem_of_getElem? (i := 19) rfl))) (Or.inl (hw _ (List.mem_of_getElem? (i := 39) rfl))) (by decide) (t := (.array (.object "java/lang/String"))) (t' := (.array (.object "java/lang/String"))) (by decide) (by decide)))
  have F114_3 := F113_3.other W114 (Or.inr (slot_ne (Or.inl (hw _ (List.mem_of_getElem? (i := 21) rfl))) (Or.inl (hw _ (List.mem_of_getElem? (i := 39) rfl))) (by decide) (t := (.array (.object "java/lang/String"))) (t' := (.array (.object "java/lang/String"))) (by decide) (by decide)))
  have F114_4 := F113_4.other W114 (Or.inr (slot_ne (Or.inl (hw _ (List.mem_of_getElem? (i := 24) rfl))) (Or.inl (hw _ (List.mem_of_getElem? (i := 39) rfl))) (by decide) (t := (.array .int)) (t' := (.array (.object "java/lang/String"))) (by decide) (by decide)))
  have F114_5 := F113_5.other W114 (Or.inr (slot_ne (Or.inl (hw _ (List.mem_of_getElem? (i := 26) rfl))) (Or.inl (hw _ (List.mem_of_getElem? (i := 39) rfl))) (by decide) (t := (.array .int)) (t' := (.array (.object "java/lang/String"))) (by decide) (by decide)))
  have F114_6 := F113_6.other W114 (Or.inr (slot_ne (Or.inl (hw _ (List.mem_of_getElem? (i := 33) rfl))) (Or.inl (hw _ (List.mem_of_getElem? (i := 39) rfl))) (by decide) (t := (.array .boolean)) (t' := (.array (.object "java/lang/String"))) (by decide) (by decide)))
  have F114_7 := F113_7.other W114 (Or.inr (slot_ne (Or.inl (hw _ (List.mem_of_getElem? (i := 35) rfl))) (Or.inl (hw _ (List.mem_of_getElem? (i := 39) rfl))) (by decide) (t := (.array (.object "java/lang/String"))) (t' := (.array (.object "java/lang/String"))) (by decide) (by decide)))
  have F114_8 := F113_8.other W114 (Or.inr (slot_ne (Or.inl (hw _ (List.mem_of_getElem? (i := 37) rfl))) (Or.inl (hw _ (List.mem_of_getElem? (i := 39) rfl))) (by decide) (t := (.array (.object "java/lang/String"))) (t' := (.array (.object "java/lang/String"))) (by decide) (by decide)))
  have F114_9 := (U113 "com/example/narrow_view/narrowview/StartTags" "attributeNamespaces" "[Ljava/lang/String;" (.array (.object "java/lang/String")) (Or.inl (hw _ (List.mem_of_getElem? (i := 39) rfl))) (by decide) (by decide)).same W114
  have A114_a95 := A113_a95.other W114 (Ne.symm (Nat.ne_of_lt lq95_o0))
  have A114_a97 := A113_a97.other W114 (Ne.symm (Nat.ne_of_lt lq97_o0))
  have A114_a99 := A113_a99.other W114 (Ne.symm (Nat.ne_of_lt lq99_o0))
  have A114_a101 := A113_a101.other W114 (Ne.symm (Nat.ne_of_lt lq101_o0))
  have A114_a103 := A113_a103.other W114 (Ne.symm (Nat.ne_of_lt lq103_o0))
  have A114_a107 := A113_a107.other W114 (Ne.symm (Nat.ne_of_lt lq107_o0))
  have A114_a109 := A113_a109.other W114 (Ne.symm (Nat.ne_of_lt lq109_o0))
  have A114_a111 := A113_a111.other W114 (Ne.symm (Nat.ne_of_lt lq111_o0))
  have A114_a113 := A113.other W114 (Ne.symm (Nat.ne_of_lt lq113_o0))
  have K114 : Keep h0 h114 [o0] := K113.wr W114 (Or.inl (List.mem_singleton.mpr rfl))
  have N114 := Fr.snoc X114 N112 g0
  have Z114 : n0 ≤ h114.size := by rw [W114.size]; exact Z113
  have U114 := OwU.put (ty := (.array (.object "java/lang/String"))) U113 W114 (Or.inl (hw _ (List.mem_of_getElem? (i := 39) rfl))) (by decide)
  refine ow_aloadN C X114 d2_91 rfl rfl (pc' := 92) rfl ?_
  refine ow_bipush (16 : Int32) C X114 d2_92 (by decide) (pc' := 94) rfl ?_
  refine ow_anewO C X114 e114 (hw _ (List.mem_of_getElem? (i := 14) rfl)) (hw _ (List.mem_of_getElem? (i := 15) rfl)) d2_94 (N := 16) (cap := 16) (by decide) (by decide) (Nat.le_of_ble_eq_true rfl) (Nat.le_of_ble_eq_true rfl) (Nat.le_of_ble_eq_true rfl) (Nat.le_of_ble_eq_true rfl) (pc' := 97) rfl (fun T115 h115 a115 g115 X115 e115 Ex115 A115 => ?_)
  have lq115_o0 : o0 < a115 := Nat.lt_of_lt_of_le E114_0.lt (Nat.le_of_eq g115.symm)
  have lq115_a95 : a95 < a115 := Nat.lt_of_lt_of_le A114_a95.lt (Nat.le_of_eq g115.symm)
  have lq115_a97 : a97 < a115 := Nat.lt_of_lt_of_le A114_a97.lt (Nat.le_of_eq g115.symm)
  have lq115_a99 : a99 < a115 := Nat.lt_of_lt_of_le A114_a99.lt (Nat.le_of_eq g115.symm)
  have lq115_a101 : a101 < a115 := Nat.lt_of_lt_of_le A114_a101.lt (Nat.le_of_eq g115.symm)
  have lq115_a103 : a103 < a115 := Nat.lt_of_lt_of_le A114_a103.lt (Nat.le_of_eq g115.symm)
  have lq115_a107 : a107 < a115 := Nat.lt_of_lt_of_le A114_a107.lt (Nat.le_of_eq g115.symm)
  have lq115_a109 : a109 < a115 := Nat.lt_of_lt_of_le A114_a109.lt (Nat.le_of_eq g115.symm)
  have lq115_a111 : a111 < a115 := Nat.lt_of_lt_of_le A114_a111.lt (Nat.le_of_eq g115.symm)
  have lq115_a113 : a113 < a115 := Nat.lt_of_lt_of_le A114_a113.lt (Nat.le_of_eq g115.symm)
  have E115_0 := E114_0.ext Ex115
  have F115_1 := F114_1.ext Ex115
  have F115_2 := F114_2.ext Ex115
  have F115_3 := F114_3.ext Ex115
  have F115_4 := F114_4.ext Ex115
  have F115_5 := F114_5.ext Ex115
  have F115_6 := F114_6.ext Ex115
  have F115_7 := F114_7.ext Ex115
  have F115_8 := F114_8.ext Ex115
  have F115_9 := F114_9.ext Ex115
  have A115_a95 := A114_a95.ext Ex115
  have A115_a97 := A114_a97.ext Ex115
  have A115_a99 := A114_a99.ext Ex115
  have A115_a101 := A114_a101.ext Ex115
  have A115_a103 := A114_a103.ext Ex115
  have A115_a107 := A114_a107.ext Ex115
  have A115_a109 := A114_a109.ext Ex115
  have A115_a111 := A114_a111.ext Ex115
  have A115_a113 := A114_a113.ext Ex115
  have Gh115 : h0.size ≤ a115 := Nat.le_trans K114.1 (Nat.le_of_eq g115.symm)
  have K115 : Keep h0 h115 [o0] := K114.ext Ex115
  have Ge115 : n0 ≤ a115 := Nat.le_trans Z114 (Nat.le_of_eq g115.symm)
  have Z115 : n0 ≤ h115.size := Nat.le_trans Z114 Ex115.1
  have U115 := U114.ext Ex115
  refine ow_putF C X115 e115 (hw _ (List.mem_of_getElem? (i := 40) rfl)) (U115 "com/example/narrow_view/narrowview/StartTags" "attributeLocalNames" "[Ljava/lang/String;" (.array (.object "java/lang/String")) (Or.inl (hw _ (List.mem_of_getElem? (i := 41) rfl))) (by decide) (by decide)) E115_0 (Or.inl (hw _ (List.mem_of_getElem? (i := 41) rfl))) (hw _ (List.mem_of_getElem? (i := 6) rfl)) (ty := (.array (.object "java/lang/String"))) (by decide) rfl rfl d2_97 (pc' := 100) rfl (fun T116 h116 X116 e116 W116 => ?_)
  have E116_0 := E115_0.wr W116
  have F116_1 := F115_1.other W116 (Or.inr (slot_ne (Or.inl (hw _ (List.mem_of_getElem? (i := 17) rfl))) (Or.inl (hw _ (List.mem_of_getElem? (i := 41) rfl))) (by decide) (t := (.array (.object "java/lang/String"))) (t' := (.array (.object "java/lang/String"))) (by decide) (by decide)))
  have F116_2 := F115_2.other W116 (Or.inr (slot_ne (Or.inl (hw _ (List.mem_of_getElem? (i := 19) rfl))) (Or.inl (hw _ (List.mem_of_getElem? (i := 41) rfl))) (by decide) (t := (.array (.object "java/lang/String"))) (t' := (.array (.object "java/lang/String"))) (by decide) (by decide)))
  have F116_3 := F115_3.other W116 (Or.inr (slot_ne (Or.inl (hw _ (List.mem_of_getElem? (i := 21) rfl))) (Or.inl (hw _ (List.mem_of_getElem? (i := 41) rfl))) (by decide) (t := (.array (.object "java/lang/String"))) (t' := (.array (.object "java/lang/String"))) (by decide) (by decide)))
  have F116_4 := F115_4.other W116 (Or.inr (slot_ne (Or.inl (hw _ (List.mem_of_getElem? (i := 24) rfl))) (Or.inl (hw _ (List.mem_of_getElem? (i := 41) rfl))) (by decide) (t := (.array .int)) (t' := (.array (.object "java/lang/String"))) (by decide) (by decide)))
  have F116_5 := F115_5.other W116 (Or.inr (slot_ne (Or.inl (hw _ (List.mem_of_getElem? (i := 26) rfl))) (Or.inl (hw _ (List.mem_of_getElem? (i := 41) rfl))) (by decide) (t := (.array .int)) (t' := (.array (.object "java/lang/String"))) (by decide) (by decide)))
  have F116_6 := F115_6.other W116 (Or.inr (slot_ne (Or.inl (hw _ (List.mem_of_getElem? (i := 33) rfl))) (Or.inl (hw _ (List.mem_of_getElem? (i := 41) rfl))) (by decide) (t := (.array .boolean)) (t' := (.array (.object "java/lang/String"))) (by decide) (by decide)))
  have F116_7 := F115_7.other W116 (Or.inr (slot_ne (Or.inl (hw _ (List.mem_of_getElem? (i := 35) rfl))) (Or.inl (hw _ (List.mem_of_getElem? (i := 41) rfl))) (by decide) (t := (.array (.object "java/lang/String"))) (t' := (.array (.object "java/lang/String"))) (by decide) (by decide)))
  have F116_8 := F115_8.other W116 (Or.inr (slot_ne (Or.inl (hw _ (List.mem_of_getElem? (i := 37) rfl))) (Or.inl (hw _ (List.mem_of_getElem? (i := 41) rfl))) (by decide) (t := (.array (.object "java/lang/String"))) (t' := (.array (.object "java/lang/String"))) (by decide) (by decide)))
  have F116_9 := F115_9.other W116 (Or.inr (slot_ne (Or.inl (hw _ (List.mem_of_getElem? (i := 39) rfl))) (Or.inl (hw _ (List.mem_of_getElem? (i := 41) rfl))) (by decide) (t := (.array (.object "java/lang/String"))) (t' := (.array (.object "java/lang/String"))) (by decide) (by decide)))
  have F116_10 := (U115 "com/example/narrow_view/narrowview/StartTags" "attributeLocalNames" "[Ljava/lang/String;" (.array (.object "java/lang/String")) (Or.inl (hw _ (List.mem_of_getElem? (i := 41) rfl))) (by decide) (by decide)).same W116
  have A116_a95 := A115_a95.other W116 (Ne.symm (Nat.ne_of_lt lq95_o0))
  have A116_a97 := A115_a97.other W116 (Ne.symm (Nat.ne_of_lt lq97_o0))
  have A116_a99 := A115_a99.other W116 (Ne.symm (Nat.ne_of_lt lq99_o0))
  have A116_a101 := A115_a101.other W116 (Ne.symm (Nat.ne_of_lt lq101_o0))
  have A116_a103 := A115_a103.other W116 (Ne.symm (Nat.ne_of_lt lq103_o0))
  have A116_a107 := A115_a107.other W116 (Ne.symm (Nat.ne_of_lt lq107_o0))
  have A116_a109 := A115_a109.other W116 (Ne.symm (Nat.ne_of_lt lq109_o0))
  have A116_a111 := A115_a111.other W116 (Ne.symm (Nat.ne_of_lt lq111_o0))
  have A116_a113 := A115_a113.other W116 (Ne.symm (Nat.ne_of_lt lq113_o0))
  have A116_a115 := A115.other W116 (Ne.symm (Nat.ne_of_lt lq115_o0))
  have K116 : Keep h0 h116 [o0] := K115.wr W116 (Or.inl (List.mem_singleton.mpr rfl))
  have N116 := Fr.snoc X116 N114 g0
  have Z116 : n0 ≤ h116.size := by rw [W116.size]; exact Z115
  have U116 := OwU.put (ty := (.array (.object "java/lang/String"))) U115 W116 (Or.inl (hw _ (List.mem_of_getElem? (i := 41) rfl))) (by decide)
  refine ow_aloadN C X116 d2_100 rfl rfl (pc' := 101) rfl ?_
  refine ow_bipush (16 : Int32) C X116 d2_101 (by decide) (pc' := 103) rfl ?_
  refine ow_anewO C X116 e116 (hw _ (List.mem_of_getElem? (i := 14) rfl)) (hw _ (List.mem_of_getElem? (i := 15) rfl)) d2_103 (N := 16) (cap := 16) (by decide) (by decide) (Nat.le_of_ble_eq_true rfl) (Nat.le_of_ble_eq_true rfl) (Nat.le_of_ble_eq_true rfl) (Nat.le_of_ble_eq_true rfl) (pc' := 106) rfl (fun T117 h117 a117 g117 X117 e117 Ex117 A117 => ?_)
  have lq117_o0 : o0 < a117 := Nat.lt_of_lt_of_le E116_0.lt (Nat.le_of_eq g117.symm)
  have lq117_a95 : a95 < a117 := Nat.lt_of_lt_of_le A116_a95.lt (Nat.le_of_eq g117.symm)
  have lq117_a97 : a97 < a117 := Nat.lt_of_lt_of_le A116_a97.lt (Nat.le_of_eq g117.symm)
  have lq117_a99 : a99 < a117 := Nat.lt_of_lt_of_le A116_a99.lt (Nat.le_of_eq g117.symm)
  have lq117_a101 : a101 < a117 := Nat.lt_of_lt_of_le A116_a101.lt (Nat.le_of_eq g117.symm)
  have lq117_a103 : a103 < a117 := Nat.lt_of_lt_of_le A116_a103.lt (Nat.le_of_eq g117.symm)
  have lq117_a107 : a107 < a117 := Nat.lt_of_lt_of_le A116_a107.lt (Nat.le_of_eq g117.symm)
  have lq117_a109 : a109 < a117 := Nat.lt_of_lt_of_le A116_a109.lt (Nat.le_of_eq g117.symm)
  have lq117_a111 : a111 < a117 := Nat.lt_of_lt_of_le A116_a111.lt (Nat.le_of_eq g117.symm)
  have lq117_a113 : a113 < a117 := Nat.lt_of_lt_of_le A116_a113.lt (Nat.le_of_eq g117.symm)
  have lq117_a115 : a115 < a117 := Nat.lt_of_lt_of_le A116_a115.lt (Nat.le_of_eq g117.symm)
  have E117_0 := E116_0.ext Ex117
  have F117_1 := F116_1.ext Ex117
  have F117_2 := F116_2.ext Ex117
  have F117_3 := F116_3.ext Ex117
  have F117_4 := F116_4.ext Ex117
  have F117_5 := F116_5.ext Ex117
  have F117_6 := F116_6.ext Ex117
  have F117_7 := F116_7.ext Ex117
  have F117_8 := F116_8.ext Ex117
  have F117_9 := F116_9.ext Ex117
  have F117_10 := F116_10.ext Ex117
  have A117_a95 := A116_a95.ext Ex117
  have A117_a97 := A116_a97.ext Ex117
  have A117_a99 := A116_a99.ext Ex117
  have A117_a101 := A116_a101.ext Ex117
  have A117_a103 := A116_a103.ext Ex117
  have A117_a107 := A116_a107.ext Ex117
  have A117_a109 := A116_a109.ext Ex117
  have A117_a111 := A116_a111.ext Ex117
  have A117_a113 := A116_a113.ext Ex117
  have A117_a115 := A116_a115.ext Ex117
  have Gh117 : h0.size ≤ a117 := Nat.le_trans K116.1 (Nat.le_of_eq g117.symm)
  have K117 : Keep h0 h117 [o0] := K116.ext Ex117
  have Ge117 : n0 ≤ a117 := Nat.le_trans Z116 (Nat.le_of_eq g117.symm)
  have Z117 : n0 ≤ h117.size := Nat.le_trans Z116 Ex117.1
  have U117 := U116.ext Ex117
  refine ow_putF C X117 e117 (hw _ (List.mem_of_getElem? (i := 42) rfl)) (U117 "com/example/narrow_view/narrowview/StartTags" "attributePrefixes" "[Ljava/lang/String;" (.array (.object "java/lang/String")) (Or.inl (hw _ (List.mem_of_getElem? (i := 43) rfl))) (by decide) (by decide)) E117_0 (Or.inl (hw _ (List.mem_of_getElem? (i := 43) rfl))) (hw _ (List.mem_of_getElem? (i := 6) rfl)) (ty := (.array (.object "java/lang/String"))) (by decide) rfl rfl d2_106 (pc' := 109) rfl (fun T118 h118 X118 e118 W118 => ?_)
  have E118_0 := E117_0.wr W118
  have F118_1 := F117_1.other W118 (Or.inr (slot_ne (Or.inl (hw _ (List.mem_of_getElem? (i := 17) rfl))) (Or.inl (hw _ (List.mem_of_getElem? (i := 43) rfl))) (by decide) (t := (.array (.object "java/lang/String"))) (t' := (.array (.object "java/lang/String"))) (by decide) (by decide)))
  have F118_2 := F117_2.other W118 (Or.inr (slot_ne (Or.inl (hw _ (List.mem_of_getElem? (i := 19) rfl))) (Or.inl (hw _ (List.mem_of_getElem? (i := 43) rfl))) (by decide) (t := (.array (.object "java/lang/String"))) (t' := (.array (.object "java/lang/String"))) (by decide) (by decide)))
  have F118_3 := F117_3.other W118 (Or.inr (slot_ne (Or.inl (hw _ (List.mem_of_getElem? (i := 21) rfl))) (Or.inl (hw _ (List.mem_of_getElem? (i := 43) rfl))) (by decide) (t := (.array (.object "java/lang/String"))) (t' := (.array (.object "java/lang/String"))) (by decide) (by decide)))
  have F118_4 := F117_4.other W118 (Or.inr (slot_ne (Or.inl (hw _ (List.mem_of_getElem? (i := 24) rfl))) (Or.inl (hw _ (List.mem_of_getElem? (i := 43) rfl))) (by decide) (t := (.array .int)) (t' := (.array (.object "java/lang/String"))) (by decide) (by decide)))
  have F118_5 := F117_5.other W118 (Or.inr (slot_ne (Or.inl (hw _ (List.mem_of_getElem? (i := 26) rfl))) (Or.inl (hw _ (List.mem_of_getElem? (i := 43) rfl))) (by decide) (t := (.array .int)) (t' := (.array (.object "java/lang/String"))) (by decide) (by decide)))
  have F118_6 := F117_6.other W118 (Or.inr (slot_ne (Or.inl (hw _ (List.mem_of_getElem? (i := 33) rfl))) (Or.inl (hw _ (List.mem_of_getElem? (i := 43) rfl))) (by decide) (t := (.array .boolean)) (t' := (.array (.object "java/lang/String"))) (by decide) (by decide)))
  have F118_7 := F117_7.other W118 (Or.inr (slot_ne (Or.inl (hw _ (List.mem_of_getElem? (i := 35) rfl))) (Or.inl (hw _ (List.mem_of_getElem? (i := 43) rfl))) (by decide) (t := (.array (.object "java/lang/String"))) (t' := (.array (.object "java/lang/String"))) (by decide) (by decide)))
  have F118_8 := F117_8.other W118 (Or.inr (slot_ne (Or.inl (hw _ (List.mem_of_getElem? (i := 37) rfl))) (Or.inl (hw _ (List.mem_of_getElem? (i := 43) rfl))) (by decide) (t := (.array (.object "java/lang/String"))) (t' := (.array (.object "java/lang/String"))) (by decide) (by decide)))
  have F118_9 := F117_9.other W118 (Or.inr (slot_ne (Or.inl (hw _ (List.mem_of_getElem? (i := 39) rfl))) (Or.inl (hw _ (List.mem_of_getElem? (i := 43) rfl))) (by decide) (t := (.array (.object "java/lang/String"))) (t' := (.array (.object "java/lang/String"))) (by decide) (by decide)))
  have F118_10 := F117_10.other W118 (Or.inr (slot_ne (Or.inl (hw _ (List.mem_of_getElem? (i := 41) rfl))) (Or.inl (hw _ (List.mem_of_getElem? (i := 43) rfl))) (by decide) (t := (.array (.object "java/lang/String"))) (t' := (.array (.object "java/lang/String"))) (by decide) (by decide)))
  have F118_11 := (U117 "com/example/narrow_view/narrowview/StartTags" "attributePrefixes" "[Ljava/lang/String;" (.array (.object "java/lang/String")) (Or.inl (hw _ (List.mem_of_getElem? (i := 43) rfl))) (by decide) (by decide)).same W118
  have A118_a95 := A117_a95.other W118 (Ne.symm (Nat.ne_of_lt lq95_o0))
  have A118_a97 := A117_a97.other W118 (Ne.symm (Nat.ne_of_lt lq97_o0))
  have A118_a99 := A117_a99.other W118 (Ne.symm (Nat.ne_of_lt lq99_o0))
  have A118_a101 := A117_a101.other W118 (Ne.symm (Nat.ne_of_lt lq101_o0))
  have A118_a103 := A117_a103.other W118 (Ne.symm (Nat.ne_of_lt lq103_o0))
  have A118_a107 := A117_a107.other W118 (Ne.symm (Nat.ne_of_lt lq107_o0))
  have A118_a109 := A117_a109.other W118 (Ne.symm (Nat.ne_of_lt lq109_o0))
  have A118_a111 := A117_a111.other W118 (Ne.symm (Nat.ne_of_lt lq111_o0))
  have A118_a113 := A117_a113.other W118 (Ne.symm (Nat.ne_of_lt lq113_o0))
  have A118_a115 := A117_a115.other W118 (Ne.symm (Nat.ne_of_lt lq115_o0))
  have A118_a117 := A117.other W118 (Ne.symm (Nat.ne_of_lt lq117_o0))
  have K118 : Keep h0 h118 [o0] := K117.wr W118 (Or.inl (List.mem_singleton.mpr rfl))
  have N118 := Fr.snoc X118 N116 g0
  have Z118 : n0 ≤ h118.size := by rw [W118.size]; exact Z117
  have U118 := OwU.put (ty := (.array (.object "java/lang/String"))) U117 W118 (Or.inl (hw _ (List.mem_of_getElem? (i := 43) rfl))) (by decide)
  refine ow_aloadN C X118 d2_109 rfl rfl (pc' := 110) rfl ?_
  refine ow_bipush (16 : Int32) C X118 d2_110 (by decide) (pc' := 112) rfl ?_
  refine ow_newarr C X118 e118 (hw _ (List.mem_of_getElem? (i := 22) rfl)) d2_112 (N := 16) (cap := 16) (by decide) (by decide) (Nat.le_of_ble_eq_true rfl) (Nat.le_of_ble_eq_true rfl) (Nat.le_of_ble_eq_true rfl) (Nat.le_of_ble_eq_true rfl) (pc' := 114) rfl (fun T119 h119 a119 g119 X119 e119 Ex119 A119 => ?_)
  have A119 : OwA Z h119 a119 .int 16 (fun _ => .int 0) := A119
  have lq119_o0 : o0 < a119 := Nat.lt_of_lt_of_le E118_0.lt (Nat.le_of_eq g119.symm)
  have lq119_a95 : a95 < a119 := Nat.lt_of_lt_of_le A118_a95.lt (Nat.le_of_eq g119.symm)
  have lq119_a97 : a97 < a119 := Nat.lt_of_lt_of_le A118_a97.lt (Nat.le_of_eq g119.symm)
  have lq119_a99 : a99 < a119 := Nat.lt_of_lt_of_le A118_a99.lt (Nat.le_of_eq g119.symm)
  have lq119_a101 : a101 < a119 := Nat.lt_of_lt_of_le A118_a101.lt (Nat.le_of_eq g119.symm)
  have lq119_a103 : a103 < a119 := Nat.lt_of_lt_of_le A118_a103.lt (Nat.le_of_eq g119.symm)
  have lq119_a107 : a107 < a119 := Nat.lt_of_lt_of_le A118_a107.lt (Nat.le_of_eq g119.symm)
  have lq119_a109 : a109 < a119 := Nat.lt_of_lt_of_le A118_a109.lt (Nat.le_of_eq g119.symm)
  have lq119_a111 : a111 < a119 := Nat.lt_of_lt_of_le A118_a111.lt (Nat.le_of_eq g119.symm)
  have lq119_a113 : a113 < a119 := Nat.lt_of_lt_of_le A118_a113.lt (Nat.le_of_eq g119.symm)
  have lq119_a115 : a115 < a119 := Nat.lt_of_lt_of_le A118_a115.lt (Nat.le_of_eq g119.symm)
  have lq119_a117 : a117 < a119 := Nat.lt_of_lt_of_le A118_a117.lt (Nat.le_of_eq g119.symm)
  have E119_0 := E118_0.ext Ex119
  have F119_1 := F118_1.ext Ex119
  have F119_2 := F118_2.ext Ex119
  have F119_3 := F118_3.ext Ex119
  have F119_4 := F118_4.ext Ex119
  have F119_5 := F118_5.ext Ex119
  have F119_6 := F118_6.ext Ex119
  have F119_7 := F118_7.ext Ex119
  have F119_8 := F118_8.ext Ex119
  have F119_9 := F118_9.ext Ex119
  have F119_10 := F118_10.ext Ex119
  have F119_11 := F118_11.ext Ex119
  have A119_a95 := A118_a95.ext Ex119
  have A119_a97 := A118_a97.ext Ex119
  have A119_a99 := A118_a99.ext Ex119
  have A119_a101 := A118_a101.ext Ex119
  have A119_a103 := A118_a103.ext Ex119
  have A119_a107 := A118_a107.ext Ex119
  have A119_a109 := A118_a109.ext Ex119
  have A119_a111 := A118_a111.ext Ex119
  have A119_a113 := A118_a113.ext Ex119
  have A119_a115 := A118_a115.ext Ex119
  have A119_a117 := A118_a117.ext Ex119
  have Gh119 : h0.size ≤ a119 := Nat.le_trans K118.1 (Nat.le_of_eq g119.symm)
  have K119 : Keep h0 h119 [o0] := K118.ext Ex119
  have Ge119 : n0 ≤ a119 := Nat.le_trans Z118 (Nat.le_of_eq g119.symm)
  have Z119 : n0 ≤ h119.size := Nat.le_trans Z118 Ex119.1
  have U119 := U118.ext Ex119
  refine ow_putF C X119 e119 (hw _ (List.mem_of_getElem? (i := 44) rfl)) (U119 "com/example/narrow_view/narrowview/StartTags" "valueEnds" "[I" (.array .int) (Or.inl (hw _ (List.mem_of_getElem? (i := 45) rfl))) (by decide) (by decide)) E119_0 (Or.inl (hw _ (List.mem_of_getElem? (i := 45) rfl))) (hw _ (List.mem_of_getElem? (i := 6) rfl)) (ty := (.array .int)) (by decide) rfl rfl d2_114 (pc' := 117) rfl (fun T120 h120 X120 e120 W120 => ?_)
  have E120_0 := E119_0.wr W120
  have F120_1 := F119_1.other W120 (Or.inr (slot_ne (Or.inl (hw _ (List.mem_of_getElem? (i := 17) rfl))) (Or.inl (hw _ (List.mem_of_getElem? (i := 45) rfl))) (by decide) (t := (.array (.object "java/lang/String"))) (t' := (.array .int)) (by decide) (by decide)))
  have F120_2 := F119_2.other W120 (Or.inr (slot_ne (Or.inl (hw _ (List.mem_of_getElem? (i := 19) rfl))) (Or.inl (hw _ (List.mem_of_getElem? (i := 45) rfl))) (by decide) (t := (.array (.object "java/lang/String"))) (t' := (.array .int)) (by decide) (by decide)))
  have F120_3 := F119_3.other W120 (Or.inr (slot_ne (Or.inl (hw _ (List.mem_of_getElem? (i := 21) rfl))) (Or.inl (hw _ (List.mem_of_getElem? (i := 45) rfl))) (by decide) (t := (.array (.object "java/lang/String"))) (t' := (.array .int)) (by decide) (by decide)))
  have F120_4 := F119_4.other W120 (Or.inr (slot_ne (Or.inl (hw _ (List.mem_of_getElem? (i := 24) rfl))) (Or.inl (hw _ (List.mem_of_getElem? (i := 45) rfl))) (by decide) (t := (.array .int)) (t' := (.array .int)) (by decide) (by decide)))
  have F120_5 := F119_5.other W120 (Or.inr (slot_ne (Or.inl (hw _ (List.mem_of_getElem? (i := 26) rfl))) (Or.inl (hw _ (List.mem_of_getElem? (i := 45) rfl))) (by decide) (t := (.array .int)) (t' := (.array .int)) (by decide) (by decide)))
  have F120_6 := F119_6.other W120 (Or.inr (slot_ne (Or.inl (hw _ (List.mem_of_getElem? (i := 33) rfl))) (Or.inl (hw _ (List.mem_of_getElem? (i := 45) rfl))) (by decide) (t := (.array .boolean)) (t' := (.array .int)) (by decide) (by decide)))
  have F120_7 := F119_7.other W120 (Or.inr (slot_ne (Or.inl (hw _ (List.mem_of_getElem? (i := 35) rfl))) (Or.inl (hw _ (List.mem_of_getElem? (i := 45) rfl))) (by decide) (t := (.array (.object "java/lang/String"))) (t' := (.array .int)) (by decide) (by decide)))
  have F120_8 := F119_8.other W120 (Or.inr (slot_ne (Or.inl (hw _ (List.mem_of_getElem? (i := 37) rfl))) (Or.inl (hw _ (List.mem_of_getElem? (i := 45) rfl))) (by decide) (t := (.array (.object "java/lang/String"))) (t' := (.array .int)) (by decide) (by decide)))
  have F120_9 := F119_9.other W120 (Or.inr (slot_ne (Or.inl (hw _ (List.mem_of_getElem? (i := 39) rfl))) (Or.inl (hw _ (List.mem_of_getElem? (i := 45) rfl))) (by decide) (t := (.array (.object "java/lang/String"))) (t' := (.array .int)) (by decide) (by decide)))
  have F120_10 := F119_10.other W120 (Or.inr (slot_ne (Or.inl (hw _ (List.mem_of_getElem? (i := 41) rfl))) (Or.inl (hw _ (List.mem_of_getElem? (i := 45) rfl))) (by decide) (t := (.array (.object "java/lang/String"))) (t' := (.array .int)) (by decide) (by decide)))
  have F120_11 := F119_11.other W120 (Or.inr (slot_ne (Or.inl (hw _ (List.mem_of_getElem? (i := 43) rfl))) (Or.inl (hw _ (List.mem_of_getElem? (i := 45) rfl))) (by decide) (t := (.array (.object "java/lang/String"))) (t' := (.array .int)) (by decide) (by decide)))
  have F120_12 := (U119 "com/example/narrow_view/narrowview/StartTags" "valueEnds" "[I" (.array .int) (Or.inl (hw _ (List.mem_of_getElem? (i := 45) rfl))) (by decide) (by decide)).same W120
  have A120_a95 := A119_a95.other W120 (Ne.symm (Nat.ne_of_lt lq95_o0))
  have A120_a97 := A119_a97.other W120 (Ne.symm (Nat.ne_of_lt lq97_o0))
  have A120_a99 := A119_a99.other W120 (Ne.symm (Nat.ne_of_lt lq99_o0))
  have A120_a101 := A119_a101.other W120 (Ne.symm (Nat.ne_of_lt lq101_o0))
  have A120_a103 := A119_a103.other W120 (Ne.symm (Nat.ne_of_lt lq103_o0))
  have A120_a107 := A119_a107.other W120 (Ne.symm (Nat.ne_of_lt lq107_o0))
  have A120_a109 := A119_a109.other W120 (Ne.symm (Nat.ne_of_lt lq109_o0))
  have A120_a111 := A119_a111.other W120 (Ne.symm (Nat.ne_of_lt lq111_o0))
  have A120_a113 := A119_a113.other W120 (Ne.symm (Nat.ne_of_lt lq113_o0))
  have A120_a115 := A119_a115.other W120 (Ne.symm (Nat.ne_of_lt lq115_o0))
  have A120_a117 := A119_a117.other W120 (Ne.symm (Nat.ne_of_lt lq117_o0))
  have A120_a119 := A119.other W120 (Ne.symm (Nat.ne_of_lt lq119_o0))
  have K120 : Keep h0 h120 [o0] := K119.wr W120 (Or.inl (List.mem_singleton.mpr rfl))
  have N120 := Fr.snoc X120 N118 g0
  have Z120 : n0 ≤ h120.size := by rw [W120.size]; exact Z119
  have U120 := OwU.put (ty := (.array .int)) U119 W120 (Or.inl (hw _ (List.mem_of_getElem? (i := 45) rfl))) (by decide)
  refine ow_aloadN C X120 d2_117 rfl rfl (pc' := 118) rfl ?_
  refine ow_sipush (256 : Int32) C X120 d2_118 (by decide) (pc' := 121) rfl ?_
  refine ow_newarr C X120 e120 (hw _ (List.mem_of_getElem? (i := 46) rfl)) d2_121 (N := 256) (cap := 256) (by decide) (by decide) (Nat.le_of_ble_eq_true rfl) (Nat.le_of_ble_eq_true rfl) (Nat.le_of_ble_eq_true rfl) (Nat.le_of_ble_eq_true rfl) (pc' := 123) rfl (fun T121 h121 a121 g121 X121 e121 Ex121 A121 => ?_)
  have A121 : OwA Z h121 a121 .char 256 (fun _ => .int 0) := A121
  have lq121_o0 : o0 < a121 := Nat.lt_of_lt_of_le E120_0.lt (Nat.le_of_eq g121.symm)
  have lq121_a95 : a95 < a121 := Nat.lt_of_lt_of_le A120_a95.lt (Nat.le_of_eq g121.symm)
  have lq121_a97 : a97 < a121 := Nat.lt_of_lt_of_le A120_a97.lt (Nat.le_of_eq g121.symm)
  have lq121_a99 : a99 < a121 := Nat.lt_of_lt_of_le A120_a99.lt (Nat.le_of_eq g121.symm)
  have lq121_a101 : a101 < a121 := Nat.lt_of_lt_of_le A120_a101.lt (Nat.le_of_eq g121.symm)
  have lq121_a103 : a103 < a121 := Nat.lt_of_lt_of_le A120_a103.lt (Nat.le_of_eq g121.symm)
  have lq121_a107 : a107 < a121 := Nat.lt_of_lt_of_le A120_a107.lt (Nat.le_of_eq g121.symm)
  have lq121_a109 : a109 < a121 := Nat.lt_of_lt_of_le A120_a109.lt (Nat.le_of_eq g121.symm)
  have lq121_a111 : a111 < a121 := Nat.lt_of_lt_of_le A120_a111.lt (Nat.le_of_eq g121.symm)
  have lq121_a113 : a113 < a121 := Nat.lt_of_lt_of_le A120_a113.lt (Nat.le_of_eq g121.symm)
  have lq121_a115 : a115 < a121 := Nat.lt_of_lt_of_le A120_a115.lt (Nat.le_of_eq g121.symm)
  have lq121_a117 : a117 < a121 := Nat.lt_of_lt_of_le A120_a117.lt (Nat.le_of_eq g121.symm)
  have E121_0 := E120_0.ext Ex121
  have F121_1 := F120_1.ext Ex121
  have F121_2 := F120_2.ext Ex121
  have F121_3 := F120_3.ext Ex121
  have F121_4 := F120_4.ext Ex121
  have F121_5 := F120_5.ext Ex121
  have F121_6 := F120_6.ext Ex121
  have F121_7 := F120_7.ext Ex121
  have F121_8 := F120_8.ext Ex121
  have F121_9 := F120_9.ext Ex121
  have F121_10 := F120_10.ext Ex121
  have F121_11 := F120_11.ext Ex121
  have A121_a95 := A120_a95.ext Ex121
  have A121_a97 := A120_a97.ext Ex121
  have A121_a99 := A120_a99.ext Ex121
  have A121_a101 := A120_a101.ext Ex121
  have A121_a103 := A120_a103.ext Ex121
  have A121_a107 := A120_a107.ext Ex121
  have A121_a109 := A120_a109.ext Ex121
  have A121_a111 := A120_a111.ext Ex121
  have A121_a113 := A120_a113.ext Ex121
  have A121_a115 := A120_a115.ext Ex121
  have A121_a117 := A120_a117.ext Ex121
  have Gh121 : h0.size ≤ a121 := Nat.le_trans K120.1 (Nat.le_of_eq g121.symm)
  have K121 : Keep h0 h121 [o0] := K120.ext Ex121
  have Ge121 : n0 ≤ a121 := Nat.le_trans Z120 (Nat.le_of_eq g121.symm)
  have Z121 : n0 ≤ h121.size := Nat.le_trans Z120 Ex121.1
  have U121 := U120.ext Ex121
  refine ow_putF C X121 e121 (hw _ (List.mem_of_getElem? (i := 47) rfl)) (U121 "com/example/narrow_view/narrowview/StartTags" "values" "[C" (.array .char) (Or.inl (hw _ (List.mem_of_getElem? (i := 48) rfl))) (by decide) (by decide)) E121_0 (Or.inl (hw _ (List.mem_of_getElem? (i := 48) rfl))) (hw _ (List.mem_of_getElem? (i := 6) rfl)) (ty := (.array .char)) (by decide) rfl rfl d2_123 (pc' := 126) rfl (fun T122 h122 X122 e122 W122 => ?_)
  have E122_0 := E121_0.wr W122
  have F122_1 := F121_1.other W122 (Or.inr (slot_ne (Or.inl (hw _ (List.mem_of_getElem? (i := 17) rfl))) (Or.inl (hw _ (List.mem_of_getElem? (i := 48) rfl))) (by decide) (t := (.array (.object "java/lang/String"))) (t' := (.array .char)) (by decide) (by decide)))
  have F122_2 := F121_2.other W122 (Or.inr (slot_ne (Or.inl (hw _ (List.mem_of_getElem? (i := 19) rfl))) (Or.inl (hw _ (List.mem_of_getElem? (i := 48) rfl))) (by decide) (t := (.array (.object "java/lang/String"))) (t' := (.array .char)) (by decide) (by decide)))
  have F122_3 := F121_3.other W122 (Or.inr (slot_ne (Or.inl (hw _ (List.mem_of_getElem? (i := 21) rfl))) (Or.inl (hw _ (List.mem_of_getElem? (i := 48) rfl))) (by decide) (t := (.array (.object "java/lang/String"))) (t' := (.array .char)) (by decide) (by decide)))
  have F122_4 := F121_4.other W122 (Or.inr (slot_ne (Or.inl (hw _ (List.mem_of_getElem? (i := 24) rfl))) (Or.inl (hw _ (List.mem_of_getElem? (i := 48) rfl))) (by decide) (t := (.array .int)) (t' := (.array .char)) (by decide) (by decide)))
  have F122_5 := F121_5.other W122 (Or.inr (slot_ne (Or.inl (hw _ (List.mem_of_getElem? (i := 26) rfl))) (Or.inl (hw _ (List.mem_of_getElem? (i := 48) rfl))) (by decide) (t := (.array .int)) (t' := (.array .char)) (by decide) (by decide)))
  have F122_6 := F121_6.other W122 (Or.inr (slot_ne (Or.inl (hw _ (List.mem_of_getElem? (i := 33) rfl))) (Or.inl (hw _ (List.mem_of_getElem? (i := 48) rfl))) (by decide) (t := (.array .boolean)) (t' := (.array .char)) (by decide) (by decide)))
  have F122_7 := F121_7.other W122 (Or.inr (slot_ne (Or.inl (hw _ (List.mem_of_getElem? (i := 35) rfl))) (Or.inl (hw _ (List.mem_of_getElem? (i := 48) rfl))) (by decide) (t := (.array (.object "java/lang/String"))) (t' := (.array .char)) (by decide) (by decide)))
  have F122_8 := F121_8.other W122 (Or.inr (slot_ne (Or.inl (hw _ (List.mem_of_getElem? (i := 37) rfl))) (Or.inl (hw _ (List.mem_of_getElem? (i := 48) rfl))) (by decide) (t := (.array (.object "java/lang/String"))) (t' := (.array .char)) (by decide) (by decide)))
  have F122_9 := F121_9.other W122 (Or.inr (slot_ne (Or.inl (hw _ (List.mem_of_getElem? (i := 39) rfl))) (Or.inl (hw _ (List.mem_of_getElem? (i := 48) rfl))) (by decide) (t := (.array (.object "java/lang/String"))) (t' := (.array .char)) (by decide) (by decide)))
  have F122_10 := F121_10.other W122 (Or.inr (slot_ne (Or.inl (hw _ (List.mem_of_getElem? (i := 41) rfl))) (Or.inl (hw _ (List.mem_of_getElem? (i := 48) rfl))) (by decide) (t := (.array (.object "java/lang/String"))) (t' := (.array .char)) (by decide) (by decide)))
  have F122_11 := F121_11.other W122 (Or.inr (slot_ne (Or.inl (hw _ (List.mem_of_getElem? (i := 43) rfl))) (Or.inl (hw _ (List.mem_of_getElem? (i := 48) rfl))) (by decide) (t := (.array (.object "java/lang/String"))) (t' := (.array .char)) (by decide) (by decide)))
  have F122_12 := (U121 "com/example/narrow_view/narrowview/StartTags" "values" "[C" (.array .char) (Or.inl (hw _ (List.mem_of_getElem? (i := 48) rfl))) (by decide) (by decide)).same W122
  have A122_a95 := A121_a95.other W122 (Ne.symm (Nat.ne_of_lt lq95_o0))
  have A122_a97 := A121_a97.other W122 (Ne.symm (Nat.ne_of_lt lq97_o0))
  have A122_a99 := A121_a99.other W122 (Ne.symm (Nat.ne_of_lt lq99_o0))
  have A122_a101 := A121_a101.other W122 (Ne.symm (Nat.ne_of_lt lq101_o0))
  have A122_a103 := A121_a103.other W122 (Ne.symm (Nat.ne_of_lt lq103_o0))
  have A122_a107 := A121_a107.other W122 (Ne.symm (Nat.ne_of_lt lq107_o0))
  have A122_a109 := A121_a109.other W122 (Ne.symm (Nat.ne_of_lt lq109_o0))
  have A122_a111 := A121_a111.other W122 (Ne.symm (Nat.ne_of_lt lq111_o0))
  have A122_a113 := A121_a113.other W122 (Ne.symm (Nat.ne_of_lt lq113_o0))
  have A122_a115 := A121_a115.other W122 (Ne.symm (Nat.ne_of_lt lq115_o0))
  have A122_a117 := A121_a117.other W122 (Ne.symm (Nat.ne_of_lt lq117_o0))
  have A122_a121 := A121.other W122 (Ne.symm (Nat.ne_of_lt lq121_o0))
  have K122 : Keep h0 h122 [o0] := K121.wr W122 (Or.inl (List.mem_singleton.mpr rfl))
  have N122 := Fr.snoc X122 N120 g0
  have Z122 : n0 ≤ h122.size := by rw [W122.size]; exact Z121
  have U122 := OwU.put (ty := (.array .char)) U121 W122 (Or.inl (hw _ (List.mem_of_getElem? (i := 48) rfl))) (by decide)
  refine ow_aloadN C X122 d2_126 rfl rfl (pc' := 127) rfl ?_
  refine ow_iconst (-1 : Int32) C X122 d2_127 (by decide) (pc' := 128) rfl ?_
  refine ow_putF C X122 e122 (hw _ (List.mem_of_getElem? (i := 49) rfl)) (U122 "com/example/narrow_view/narrowview/StartTags" "suppliedTag" "I" .int (Or.inl (hw _ (List.mem_of_getElem? (i := 50) rfl))) (by decide) (by decide)) E122_0 (Or.inl (hw _ (List.mem_of_getElem? (i := 50) rfl))) (hw _ (List.mem_of_getElem? (i := 6) rfl)) (ty := .int) (by decide) rfl rfl d2_128 (pc' := 131) rfl (fun T123 h123 X123 e123 W123 => ?_)
  have E123_0 := E122_0.wr W123
  have F123_1 := F122_1.other W123 (Or.inr (slot_ne (Or.inl (hw _ (List.mem_of_getElem? (i := 17) rfl))) (Or.inl (hw _ (List.mem_of_getElem? (i := 50) rfl))) (by decide) (t := (.array (.object "java/lang/String"))) (t' := .int) (by decide) (by decide)))
  have F123_2 := F122_2.other W123 (Or.inr (slot_ne (Or.inl (hw _ (List.mem_of_getElem? (i := 19) rfl))) (Or.inl (hw _ (List.mem_of_getElem? (i := 50) rfl))) (by decide) (t := (.array (.object "java/lang/String"))) (t' := .int) (by decide) (by decide)))
  have F123_3 := F122_3.other W123 (Or.inr (slot_ne (Or.inl (hw _ (List.mem_of_getElem? (i := 21) rfl))) (Or.inl (hw _ (List.mem_of_getElem? (i := 50) rfl))) (by decide) (t := (.array (.object "java/lang/String"))) (t' := .int) (by decide) (by decide)))
  have F123_4 := F122_4.other W123 (Or.inr (slot_ne (Or.inl (hw _ (List.mem_of_getElem? (i := 24) rfl))) (Or.inl (hw _ (List.mem_of_getElem? (i := 50) rfl))) (by decide) (t := (.array .int)) (t' := .int) (by decide) (by decide)))
  have F123_5 := F122_5.other W123 (Or.inr (slot_ne (Or.inl (hw _ (List.mem_of_getElem? (i := 26) rfl))) (Or.inl (hw _ (List.mem_of_getElem? (i := 50) rfl))) (by decide) (t := (.array .int)) (t' := .int) (by decide) (by decide)))
  have F123_6 := F122_6.other W123 (Or.inr (slot_ne (Or.inl (hw _ (List.mem_of_getElem? (i := 33) rfl))) (Or.inl (hw _ (List.mem_of_getElem? (i := 50) rfl))) (by decide) (t := (.array .boolean)) (t' := .int) (by decide) (by decide)))
  have F123_7 := F122_7.other W123 (Or.inr (slot_ne (Or.inl (hw _ (List.mem_of_getElem? (i := 35) rfl))) (Or.inl (hw _ (List.mem_of_getElem? (i := 50) rfl))) (by decide) (t := (.array (.object "java/lang/String"))) (t' := .int) (by decide) (by decide)))
  have F123_8 := F122_8.other W123 (Or.inr (slot_ne (Or.inl (hw _ (List.mem_of_getElem? (i := 37) rfl))) (Or.inl (hw _ (List.mem_of_getElem? (i := 50) rfl))) (by decide) (t := (.array (.object "java/lang/String"))) (t' := .int) (by decide) (by decide)))
  have F123_9 := F122_9.other W123 (Or.inr (slot_ne (Or.inl (hw _ (List.mem_of_getElem? (i := 39) rfl))) (Or.inl (hw _ (List.mem_of_getElem? (i := 50) rfl))) (by decide) (t := (.array (.object "java/lang/String"))) (t' := .int) (by decide) (by decide)))
  have F123_10 := F122_10.other W123 (Or.inr (slot_ne (Or.inl (hw _ (List.mem_of_getElem? (i := 41) rfl))) (Or.inl (hw _ (List.mem_of_getElem? (i := 50) rfl))) (by decide) (t := (.array (.object "java/lang/String"))) (t' := .int) (by decide) (by decide)))
  have F123_11 := F122_11.other W123 (Or.inr (slot_ne (Or.inl (hw _ (List.mem_of_getElem? (i := 43) rfl))) (Or.inl (hw _ (List.mem_of_getElem? (i := 50) rfl))) (by decide) (t := (.array (.object "java/lang/String"))) (t' := .int) (by decide) (by decide)))
  have F123_12 := F122_12.other W123 (Or.inr (slot_ne (Or.inl (hw _ (List.mem_of_getElem? (i := 48) rfl))) (Or.inl (hw _ (List.mem_of_getElem? (i := 50) rfl))) (by decide) (t := (.array .char)) (t' := .int) (by decide) (by decide)))
  have F123_13 := (U122 "com/example/narrow_view/narrowview/StartTags" "suppliedTag" "I" .int (Or.inl (hw _ (List.mem_of_getElem? (i := 50) rfl))) (by decide) (by decide)).same W123
  have A123_a95 := A122_a95.other W123 (Ne.symm (Nat.ne_of_lt lq95_o0))
  have A123_a97 := A122_a97.other W123 (Ne.symm (Nat.ne_of_lt lq97_o0))
  have A123_a99 := A122_a99.other W123 (Ne.symm (Nat.ne_of_lt lq99_o0))
  have A123_a101 := A122_a101.other W123 (Ne.symm (Nat.ne_of_lt lq101_o0))
  have A123_a103 := A122_a103.other W123 (Ne.symm (Nat.ne_of_lt lq103_o0))
  have A123_a107 := A122_a107.other W123 (Ne.symm (Nat.ne_of_lt lq107_o0))
  have A123_a109 := A122_a109.other W123 (Ne.symm (Nat.ne_of_lt lq109_o0))
  have A123_a111 := A122_a111.other W123 (Ne.symm (Nat.ne_of_lt lq111_o0))
  have A123_a113 := A122_a113.other W123 (Ne.symm (Nat.ne_of_lt lq113_o0))
  have A123_a115 := A122_a115.other W123 (Ne.symm (Nat.ne_of_lt lq115_o0))
  have A123_a117 := A122_a117.other W123 (Ne.symm (Nat.ne_of_lt lq117_o0))
  have A123_a121 := A122_a121.other W123 (Ne.symm (Nat.ne_of_lt lq121_o0))
  have K123 : Keep h0 h123 [o0] := K122.wr W123 (Or.inl (List.mem_singleton.mpr rfl))
  have N123 := Fr.snoc X123 N122 g0
  have Z123 : n0 ≤ h123.size := by rw [W123.size]; exact Z122
  have U123 := OwU.put (ty := .int) U122 W123 (Or.inl (hw _ (List.mem_of_getElem? (i := 50) rfl))) (by decide)
  refine ow_aloadN C X123 d2_131 rfl rfl (pc' := 132) rfl ?_
  refine ow_bipush (16 : Int32) C X123 d2_132 (by decide) (pc' := 134) rfl ?_
  refine ow_anewO C X123 e123 (hw _ (List.mem_of_getElem? (i := 14) rfl)) (hw _ (List.mem_of_getElem? (i := 15) rfl)) d2_134 (N := 16) (cap := 16) (by decide) (by decide) (Nat.le_of_ble_eq_true rfl) (Nat.le_of_ble_eq_true rfl) (Nat.le_of_ble_eq_true rfl) (Nat.le_of_ble_eq_true rfl) (pc' := 137) rfl (fun T124 h124 a124 g124 X124 e124 Ex124 A124 => ?_)
  have lq124_o0 : o0 < a124 := Nat.lt_of_lt_of_le E123_0.lt (Nat.le_of_eq g124.symm)
  have lq124_a95 : a95 < a124 := Nat.lt_of_lt_of_le A123_a95.lt (Nat.le_of_eq g124.symm)
  have lq124_a97 : a97 < a124 := Nat.lt_of_lt_of_le A123_a97.lt (Nat.le_of_eq g124.symm)
  have lq124_a99 : a99 < a124 := Nat.lt_of_lt_of_le A123_a99.lt (Nat.le_of_eq g124.symm)
  have lq124_a101 : a101 < a124 := Nat.lt_of_lt_of_le A123_a101.lt (Nat.le_of_eq g124.symm)
  have lq124_a103 : a103 < a124 := Nat.lt_of_lt_of_le A123_a103.lt (Nat.le_of_eq g124.symm)
  have lq124_a107 : a107 < a124 := Nat.lt_of_lt_of_le A123_a107.lt (Nat.le_of_eq g124.symm)
  have lq124_a109 : a109 < a124 := Nat.lt_of_lt_of_le A123_a109.lt (Nat.le_of_eq g124.symm)
  have lq124_a111 : a111 < a124 := Nat.lt_of_lt_of_le A123_a111.lt (Nat.le_of_eq g124.symm)
  have lq124_a113 : a113 < a124 := Nat.lt_of_lt_of_le A123_a113.lt (Nat.le_of_eq g124.symm)
  have lq124_a115 : a115 < a124 := Nat.lt_of_lt_of_le A123_a115.lt (Nat.le_of_eq g124.symm)
  have lq124_a117 : a117 < a124 := Nat.lt_of_lt_of_le A123_a117.lt (Nat.le_of_eq g124.symm)
  have lq124_a121 : a121 < a124 := Nat.lt_of_lt_of_le A123_a121.lt (Nat.le_of_eq g124.symm)
  have E124_0 := E123_0.ext Ex124
  have F124_1 := F123_1.ext Ex124
  have F124_2 := F123_2.ext Ex124
  have F124_3 := F123_3.ext Ex124
  have F124_4 := F123_4.ext Ex124
  have F124_5 := F123_5.ext Ex124
  have F124_6 := F123_6.ext Ex124
  have F124_7 := F123_7.ext Ex124
  have F124_8 := F123_8.ext Ex124
  have F124_9 := F123_9.ext Ex124
  have F124_10 := F123_10.ext Ex124
  have F124_11 := F123_11.ext Ex124
  have F124_12 := F123_12.ext Ex124
  have F124_13 := F123_13.ext Ex124
  have A124_a95 := A123_a95.ext Ex124
  have A124_a97 := A123_a97.ext Ex124
  have A124_a99 := A123_a99.ext Ex124
  have A124_a101 := A123_a101.ext Ex124
  have A124_a103 := A123_a103.ext Ex124
  have A124_a107 := A123_a107.ext Ex124
  have A124_a109 := A123_a109.ext Ex124
  have A124_a111 := A123_a111.ext Ex124
  have A124_a113 := A123_a113.ext Ex124
  have A124_a115 := A123_a115.ext Ex124
  have A124_a117 := A123_a117.ext Ex124
  have A124_a121 := A123_a121.ext Ex124
  have Gh124 : h0.size ≤ a124 := Nat.le_trans K123.1 (Nat.le_of_eq g124.symm)
  have K124 : Keep h0 h124 [o0] := K123.ext Ex124
  have Ge124 : n0 ≤ a124 := Nat.le_trans Z123 (Nat.le_of_eq g124.symm)
  have Z124 : n0 ≤ h124.size := Nat.le_trans Z123 Ex124.1
  have U124 := U123.ext Ex124
  refine ow_putF C X124 e124 (hw _ (List.mem_of_getElem? (i := 51) rfl)) (U124 "com/example/narrow_view/narrowview/StartTags" "suppliedNamespaces" "[Ljava/lang/String;" (.array (.object "java/lang/String")) (Or.inl (hw _ (List.mem_of_getElem? (i := 52) rfl))) (by decide) (by decide)) E124_0 (Or.inl (hw _ (List.mem_of_getElem? (i := 52) rfl))) (hw _ (List.mem_of_getElem? (i := 6) rfl)) (ty := (.array (.object "java/lang/String"))) (by decide) rfl rfl d2_137 (pc' := 140) rfl (fun T125 h125 X125 e125 W125 => ?_)
  have E125_0 := E124_0.wr W125
  have F125_1 := F124_1.other W125 (Or.inr (slot_ne (Or.inl (hw _ (List.mem_of_getElem? (i := 17) rfl))) (Or.inl (hw _ (List.mem_of_getElem? (i := 52) rfl))) (by decide) (t := (.array (.object "java/lang/String"))) (t' := (.array (.object "java/lang/String"))) (by decide) (by decide)))
  have F125_2 := F124_2.other W125 (Or.inr (slot_ne (Or.inl (hw _ (List.mem_of_getElem? (i := 19) rfl))) (Or.inl (hw _ (List.mem_of_getElem? (i := 52) rfl))) (by decide) (t := (.array (.object "java/lang/String"))) (t' := (.array (.object "java/lang/String"))) (by decide) (by decide)))
  have F125_3 := F124_3.other W125 (Or.inr (slot_ne (Or.inl (hw _ (List.mem_of_getElem? (i := 21) rfl))) (Or.inl (hw _ (List.mem_of_getElem? (i := 52) rfl))) (by decide) (t := (.array (.object "java/lang/String"))) (t' := (.array (.object "java/lang/String"))) (by decide) (by decide)))
  have F125_4 := F124_4.other W125 (Or.inr (slot_ne (Or.inl (hw _ (List.mem_of_getElem? (i := 24) rfl))) (Or.inl (hw _ (List.mem_of_getElem? (i := 52) rfl))) (by decide) (t := (.array .int)) (t' := (.array (.object "java/lang/String"))) (by decide) (by decide)))
  have F125_5 := F124_5.other W125 (Or.inr (slot_ne (Or.inl (hw _ (List.mem_of_getElem? (i := 26) rfl))) (Or.inl (hw _ (List.mem_of_getElem? (i := 52) rfl))) (by decide) (t := (.array .int)) (t' := (.array (.object "java/lang/String"))) (by decide) (by decide)))
  have F125_6 := F124_6.other W125 (Or.inr (slot_ne (Or.inl (hw _ (List.mem_of_getElem? (i := 33) rfl))) (Or.inl (hw _ (List.mem_of_getElem? (i := 52) rfl))) (by decide) (t := (.array .boolean)) (t' := (.array (.object "java/lang/String"))) (by decide) (by decide)))
  have F125_7 := F124_7.other W125 (Or.inr (slot_ne (Or.inl (hw _ (List.mem_of_getElem? (i := 35) rfl))) (Or.inl (hw _ (List.mem_of_getElem? (i := 52) rfl))) (by decide) (t := (.array (.object "java/lang/String"))) (t' := (.array (.object "java/lang/String"))) (by decide) (by decide)))
  have F125_8 := F124_8.other W125 (Or.inr (slot_ne (Or.inl (hw _ (List.mem_of_getElem? (i := 37) rfl))) (Or.inl (hw _ (List.mem_of_getElem? (i := 52) rfl))) (by decide) (t := (.array (.object "java/lang/String"))) (t' := (.array (.object "java/lang/String"))) (by decide) (by decide)))
  have F125_9 := F124_9.other W125 (Or.inr (slot_ne (Or.inl (hw _ (List.mem_of_getElem? (i := 39) rfl))) (Or.inl (hw _ (List.mem_of_getElem? (i := 52) rfl))) (by decide) (t := (.array (.object "java/lang/String"))) (t' := (.array (.object "java/lang/String"))) (by decide) (by decide)))
  have F125_10 := F124_10.other W125 (Or.inr (slot_ne (Or.inl (hw _ (List.mem_of_getElem? (i := 41) rfl))) (Or.inl (hw _ (List.mem_of_getElem? (i := 52) rfl))) (by decide) (t := (.array (.object "java/lang/String"))) (t' := (.array (.object "java/lang/String"))) (by decide) (by decide)))
  have F125_11 := F124_11.other W125 (Or.inr (slot_ne (Or.inl (hw _ (List.mem_of_getElem? (i := 43) rfl))) (Or.inl (hw _ (List.mem_of_getElem? (i := 52) rfl))) (by decide) (t := (.array (.object "java/lang/String"))) (t' := (.array (.object "java/lang/String"))) (by decide) (by decide)))
  have F125_12 := F124_12.other W125 (Or.inr (slot_ne (Or.inl (hw _ (List.mem_of_getElem? (i := 48) rfl))) (Or.inl (hw _ (List.mem_of_getElem? (i := 52) rfl))) (by decide) (t := (.array .char)) (t' := (.array (.object "java/lang/String"))) (by decide) (by decide)))
  have F125_13 := F124_13.other W125 (Or.inr (slot_ne (Or.inl (hw _ (List.mem_of_getElem? (i := 50) rfl))) (Or.inl (hw _ (List.mem_of_getElem? (i := 52) rfl))) (by decide) (t := .int) (t' := (.array (.object "java/lang/String"))) (by decide) (by decide)))
  have F125_14 := (U124 "com/example/narrow_view/narrowview/StartTags" "suppliedNamespaces" "[Ljava/lang/String;" (.array (.object "java/lang/String")) (Or.inl (hw _ (List.mem_of_getElem? (i := 52) rfl))) (by decide) (by decide)).same W125
  have A125_a95 := A124_a95.other W125 (Ne.symm (Nat.ne_of_lt lq95_o0))
  have A125_a97 := A124_a97.other W125 (Ne.symm (Nat.ne_of_lt lq97_o0))
  have A125_a99 := A124_a99.other W125 (Ne.symm (Nat.ne_of_lt lq99_o0))
  have A125_a101 := A124_a101.other W125 (Ne.symm (Nat.ne_of_lt lq101_o0))
  have A125_a103 := A124_a103.other W125 (Ne.symm (Nat.ne_of_lt lq103_o0))
  have A125_a107 := A124_a107.other W125 (Ne.symm (Nat.ne_of_lt lq107_o0))
  have A125_a109 := A124_a109.other W125 (Ne.symm (Nat.ne_of_lt lq109_o0))
  have A125_a111 := A124_a111.other W125 (Ne.symm (Nat.ne_of_lt lq111_o0))
  have A125_a113 := A124_a113.other W125 (Ne.symm (Nat.ne_of_lt lq113_o0))
  have A125_a115 := A124_a115.other W125 (Ne.symm (Nat.ne_of_lt lq115_o0))
  have A125_a117 := A124_a117.other W125 (Ne.symm (Nat.ne_of_lt lq117_o0))
  have A125_a121 := A124_a121.other W125 (Ne.symm (Nat.ne_of_lt lq121_o0))
  have A125_a124 := A124.other W125 (Ne.symm (Nat.ne_of_lt lq124_o0))
  have K125 : Keep h0 h125 [o0] := K124.wr W125 (Or.inl (List.mem_singleton.mpr rfl))
  have N125 := Fr.snoc X125 N123 g0
  have Z125 : n0 ≤ h125.size := by rw [W125.size]; exact Z124
  have U125 := OwU.put (ty := (.array (.object "java/lang/String"))) U124 W125 (Or.inl (hw _ (List.mem_of_getElem? (i := 52) rfl))) (by decide)
  refine ow_aloadN C X125 d2_140 rfl rfl (pc' := 141) rfl ?_
  refine ow_bipush (16 : Int32) C X125 d2_141 (by decide) (pc' := 143) rfl ?_
  refine ow_anewO C X125 e125 (hw _ (List.mem_of_getElem? (i := 14) rfl)) (hw _ (List.mem_of_getElem? (i := 15) rfl)) d2_143 (N := 16) (cap := 16) (by decide) (by decide) (Nat.le_of_ble_eq_true rfl) (Nat.le_of_ble_eq_true rfl) (Nat.le_of_ble_eq_true rfl) (Nat.le_of_ble_eq_true rfl) (pc' := 146) rfl (fun T126 h126 a126 g126 X126 e126 Ex126 A126 => ?_)
  have lq126_o0 : o0 < a126 := Nat.lt_of_lt_of_le E125_0.lt (Nat.le_of_eq g126.symm)
  have lq126_a95 : a95 < a126 := Nat.lt_of_lt_of_le A125_a95.lt (Nat.le_of_eq g126.symm)
  have lq126_a97 : a97 < a126 := Nat.lt_of_lt_of_le A125_a97.lt (Nat.le_of_eq g126.symm)
  have lq126_a99 : a99 < a126 := Nat.lt_of_lt_of_le A125_a99.lt (Nat.le_of_eq g126.symm)
  have lq126_a101 : a101 < a126 := Nat.lt_of_lt_of_le A125_a101.lt (Nat.le_of_eq g126.symm)
  have lq126_a103 : a103 < a126 := Nat.lt_of_lt_of_le A125_a103.lt (Nat.le_of_eq g126.symm)
  have lq126_a107 : a107 < a126 := Nat.lt_of_lt_of_le A125_a107.lt (Nat.le_of_eq g126.symm)
  have lq126_a109 : a109 < a126 := Nat.lt_of_lt_of_le A125_a109.lt (Nat.le_of_eq g126.symm)
  have lq126_a111 : a111 < a126 := Nat.lt_of_lt_of_le A125_a111.lt (Nat.le_of_eq g126.symm)
  have lq126_a113 : a113 < a126 := Nat.lt_of_lt_of_le A125_a113.lt (Nat.le_of_eq g126.symm)
  have lq126_a115 : a115 < a126 := Nat.lt_of_lt_of_le A125_a115.lt (Nat.le_of_eq g126.symm)
  have lq126_a117 : a117 < a126 := Nat.lt_of_lt_of_le A125_a117.lt (Nat.le_of_eq g126.symm)
  have lq126_a121 : a121 < a126 := Nat.lt_of_lt_of_le A125_a121.lt (Nat.le_of_eq g126.symm)
  have E126_0 := E125_0.ext Ex126
  have F126_1 := F125_1.ext Ex126
  have F126_2 := F125_2.ext Ex126
  have F126_3 := F125_3.ext Ex126
  have F126_4 := F125_4.ext Ex126
  have F126_5 := F125_5.ext Ex126
  have F126_6 := F125_6.ext Ex126
  have F126_7 := F125_7.ext Ex126
  have F126_8 := F125_8.ext Ex126
  have F126_9 := F125_9.ext Ex126
  have F126_10 := F125_10.ext Ex126
  have F126_11 := F125_11.ext Ex126
  have F126_12 := F125_12.ext Ex126
  have F126_13 := F125_13.ext Ex126
  have A126_a95 := A125_a95.ext Ex126
  have A126_a97 := A125_a97.ext Ex126
  have A126_a99 := A125_a99.ext Ex126
  have A126_a101 := A125_a101.ext Ex126
  have A126_a103 := A125_a103.ext Ex126
  have A126_a107 := A125_a107.ext Ex126
  have A126_a109 := A125_a109.ext Ex126
  have A126_a111 := A125_a111.ext Ex126
  have A126_a113 := A125_a113.ext Ex126
  have A126_a115 := A125_a115.ext Ex126
  have A126_a117 := A125_a117.ext Ex126
  have A126_a121 := A125_a121.ext Ex126
  have Gh126 : h0.size ≤ a126 := Nat.le_trans K125.1 (Nat.le_of_eq g126.symm)
  have K126 : Keep h0 h126 [o0] := K125.ext Ex126
  have Ge126 : n0 ≤ a126 := Nat.le_trans Z125 (Nat.le_of_eq g126.symm)
  have Z126 : n0 ≤ h126.size := Nat.le_trans Z125 Ex126.1
  have U126 := U125.ext Ex126
  refine ow_putF C X126 e126 (hw _ (List.mem_of_getElem? (i := 53) rfl)) (U126 "com/example/narrow_view/narrowview/StartTags" "suppliedLocalNames" "[Ljava/lang/String;" (.array (.object "java/lang/String")) (Or.inl (hw _ (List.mem_of_getElem? (i := 54) rfl))) (by decide) (by decide)) E126_0 (Or.inl (hw _ (List.mem_of_getElem? (i := 54) rfl))) (hw _ (List.mem_of_getElem? (i := 6) rfl)) (ty := (.array (.object "java/lang/String"))) (by decide) rfl rfl d2_146 (pc' := 149) rfl (fun T127 h127 X127 e127 W127 => ?_)
  have E127_0 := E126_0.wr W127
  have F127_1 := F126_1.other W127 (Or.inr (slot_ne (Or.inl (hw _ (List.mem_of_getElem? (i := 17) rfl))) (Or.inl (hw _ (List.mem_of_getElem? (i := 54) rfl))) (by decide) (t := (.array (.object "java/lang/String"))) (t' := (.array (.object "java/lang/String"))) (by decide) (by decide)))
  have F127_2 := F126_2.other W127 (Or.inr (slot_ne (Or.inl (hw _ (List.mem_of_getElem? (i := 19) rfl))) (Or.inl (hw _ (List.mem_of_getElem? (i := 54) rfl))) (by decide) (t := (.array (.object "java/lang/String"))) (t' := (.array (.object "java/lang/String"))) (by decide) (by decide)))
  have F127_3 := F126_3.other W127 (Or.inr (slot_ne (Or.inl (hw _ (List.mem_of_getElem? (i := 21) rfl))) (Or.inl (hw _ (List.mem_of_getElem? (i := 54) rfl))) (by decide) (t := (.array (.object "java/lang/String"))) (t' := (.array (.object "java/lang/String"))) (by decide) (by decide)))
  have F127_4 := F126_4.other W127 (Or.inr (slot_ne (Or.inl (hw _ (List.mem_of_getElem? (i := 24) rfl))) (Or.inl (hw _ (List.mem_of_getElem? (i := 54) rfl))) (by decide) (t := (.array .int)) (t' := (.array (.object "java/lang/String"))) (by decide) (by decide)))
  have F127_5 := F126_5.other W127 (Or.inr (slot_ne (Or.inl (hw _ (List.mem_of_getElem? (i := 26) rfl))) (Or.inl (hw _ (List.mem_of_getElem? (i := 54) rfl))) (by decide) (t := (.array .int)) (t' := (.array (.object "java/lang/String"))) (by decide) (by decide)))
  have F127_6 := F126_6.other W127 (Or.inr (slot_ne (Or.inl (hw _ (List.mem_of_getElem? (i := 33) rfl))) (Or.inl (hw _ (List.mem_of_getElem? (i := 54) rfl))) (by decide) (t := (.array .boolean)) (t' := (.array (.object "java/lang/String"))) (by decide) (by decide)))
  have F127_7 := F126_7.other W127 (Or.inr (slot_ne (Or.inl (hw _ (List.mem_of_getElem? (i := 35) rfl))) (Or.inl (hw _ (List.mem_of_getElem? (i := 54) rfl))) (by decide) (t := (.array (.object "java/lang/String"))) (t' := (.array (.object "java/lang/String"))) (by decide) (by decide)))
  have F127_8 := F126_8.other W127 (Or.inr (slot_ne (Or.inl (hw _ (List.mem_of_getElem? (i := 37) rfl))) (Or.inl (hw _ (List.mem_of_getElem? (i := 54) rfl))) (by decide) (t := (.array (.object "java/lang/String"))) (t' := (.array (.object "java/lang/String"))) (by decide) (by decide)))
  have F127_9 := F126_9.other W127 (Or.inr (slot_ne (Or.inl (hw _ (List.mem_of_getElem? (i := 39) rfl))) (Or.inl (hw _ (List.mem_of_getElem? (i := 54) rfl))) (by decide) (t := (.array (.object "java/lang/String"))) (t' := (.array (.object "java/lang/String"))) (by decide) (by decide)))
  have F127_10 := F126_10.other W127 (Or.inr (slot_ne (Or.inl (hw _ (List.mem_of_getElem? (i := 41) rfl))) (Or.inl (hw _ (List.mem_of_getElem? (i := 54) rfl))) (by decide) (t := (.array (.object "java/lang/String"))) (t' := (.array (.object "java/lang/String"))) (by decide) (by decide)))
  have F127_11 := F126_11.other W127 (Or.inr (slot_ne (Or.inl (hw _ (List.mem_of_getElem? (i := 43) rfl))) (Or.inl (hw _ (List.mem_of_getElem? (i := 54) rfl))) (by decide) (t := (.array (.object "java/lang/String"))) (t' := (.array (.object "java/lang/String"))) (by decide) (by decide)))
  have F127_12 := F126_12.other W127 (Or.inr (slot_ne (Or.inl (hw _ (List.mem_of_getElem? (i := 48) rfl))) (Or.inl (hw _ (List.mem_of_getElem? (i := 54) rfl))) (by decide) (t := (.array .char)) (t' := (.array (.object "java/lang/String"))) (by decide) (by decide)))
  have F127_13 := F126_13.other W127 (Or.inr (slot_ne (Or.inl (hw _ (List.mem_of_getElem? (i := 50) rfl))) (Or.inl (hw _ (List.mem_of_getElem? (i := 54) rfl))) (by decide) (t := .int) (t' := (.array (.object "java/lang/String"))) (by decide) (by decide)))
  have F127_14 := (U126 "com/example/narrow_view/narrowview/StartTags" "suppliedLocalNames" "[Ljava/lang/String;" (.array (.object "java/lang/String")) (Or.inl (hw _ (List.mem_of_getElem? (i := 54) rfl))) (by decide) (by decide)).same W127
  have A127_a95 := A126_a95.other W127 (Ne.symm (Nat.ne_of_lt lq95_o0))
  have A127_a97 := A126_a97.other W127 (Ne.symm (Nat.ne_of_lt lq97_o0))
  have A127_a99 := A126_a99.other W127 (Ne.symm (Nat.ne_of_lt lq99_o0))
  have A127_a101 := A126_a101.other W127 (Ne.symm (Nat.ne_of_lt lq101_o0))
  have A127_a103 := A126_a103.other W127 (Ne.symm (Nat.ne_of_lt lq103_o0))
  have A127_a107 := A126_a107.other W127 (Ne.symm (Nat.ne_of_lt lq107_o0))
  have A127_a109 := A126_a109.other W127 (Ne.symm (Nat.ne_of_lt lq109_o0))
  have A127_a111 := A126_a111.other W127 (Ne.symm (Nat.ne_of_lt lq111_o0))
  have A127_a113 := A126_a113.other W127 (Ne.symm (Nat.ne_of_lt lq113_o0))
  have A127_a115 := A126_a115.other W127 (Ne.symm (Nat.ne_of_lt lq115_o0))
  have A127_a117 := A126_a117.other W127 (Ne.symm (Nat.ne_of_lt lq117_o0))
  have A127_a121 := A126_a121.other W127 (Ne.symm (Nat.ne_of_lt lq121_o0))
  have A127_a126 := A126.other W127 (Ne.symm (Nat.ne_of_lt lq126_o0))
  have K127 : Keep h0 h127 [o0] := K126.wr W127 (Or.inl (List.mem_singleton.mpr rfl))
  have N127 := Fr.snoc X127 N125 g0
  have Z127 : n0 ≤ h127.size := by rw [W127.size]; exact Z126
  have U127 := OwU.put (ty := (.array (.object "java/lang/String"))) U126 W127 (Or.inl (hw _ (List.mem_of_getElem? (i := 54) rfl))) (by decide)
  refine ow_aloadN C X127 d2_149 rfl rfl (pc' := 150) rfl ?_
  refine ow_bipush (16 : Int32) C X127 d2_150 (by decide) (pc' := 152) rfl ?_
  refine ow_anewO C X127 e127 (hw _ (List.mem_of_getElem? (i := 14) rfl)) (hw _ (List.mem_of_getElem? (i := 15) rfl)) d2_152 (N := 16) (cap := 16) (by decide) (by decide) (Nat.le_of_ble_eq_true rfl) (Nat.le_of_ble_eq_true rfl) (Nat.le_of_ble_eq_true rfl) (Nat.le_of_ble_eq_true rfl) (pc' := 155) rfl (fun T128 h128 a128 g128 X128 e128 Ex128 A128 => ?_)
  have lq128_o0 : o0 < a128 := Nat.lt_of_lt_of_le E127_0.lt (Nat.le_of_eq g128.symm)
  have lq128_a95 : a95 < a128 := Nat.lt_of_lt_of_le A127_a95.lt (Nat.le_of_eq g128.symm)
  have lq128_a97 : a97 < a128 := Nat.lt_of_lt_of_le A127_a97.lt (Nat.le_of_eq g128.symm)
  have lq128_a99 : a99 < a128 := Nat.lt_of_lt_of_le A127_a99.lt (Nat.le_of_eq g128.symm)
  have lq128_a101 : a101 < a128 := Nat.lt_of_lt_of_le A127_a101.lt (Nat.le_of_eq g128.symm)
  have lq128_a103 : a103 < a128 := Nat.lt_of_lt_of_le A127_a103.lt (Nat.le_of_eq g128.symm)
  have lq128_a107 : a107 < a128 := Nat.lt_of_lt_of_le A127_a107.lt (Nat.le_of_eq g128.symm)
  have lq128_a109 : a109 < a128 := Nat.lt_of_lt_of_le A127_a109.lt (Nat.le_of_eq g128.symm)
  have lq128_a111 : a111 < a128 := Nat.lt_of_lt_of_le A127_a111.lt (Nat.le_of_eq g128.symm)
  have lq128_a113 : a113 < a128 := Nat.lt_of_lt_of_le A127_a113.lt (Nat.le_of_eq g128.symm)
  have lq128_a115 : a115 < a128 := Nat.lt_of_lt_of_le A127_a115.lt (Nat.le_of_eq g128.symm)
  have lq128_a117 : a117 < a128 := Nat.lt_of_lt_of_le A127_a117.lt (Nat.le_of_eq g128.symm)
  have lq128_a121 : a121 < a128 := Nat.lt_of_lt_of_le A127_a121.lt (Nat.le_of_eq g128.symm)
  have E128_0 := E127_0.ext Ex128
  have F128_1 := F127_1.ext Ex128
  have F128_2 := F127_2.ext Ex128
  have F128_3 := F127_3.ext Ex128
  have F128_4 := F127_4.ext Ex128
  have F128_5 := F127_5.ext Ex128
  have F128_6 := F127_6.ext Ex128
  have F128_7 := F127_7.ext Ex128
  have F128_8 := F127_8.ext Ex128
  have F128_9 := F127_9.ext Ex128
  have F128_10 := F127_10.ext Ex128
  have F128_11 := F127_11.ext Ex128
  have F128_12 := F127_12.ext Ex128
  have F128_13 := F127_13.ext Ex128
  have A128_a95 := A127_a95.ext Ex128
  have A128_a97 := A127_a97.ext Ex128
  have A128_a99 := A127_a99.ext Ex128
  have A128_a101 := A127_a101.ext Ex128
  have A128_a103 := A127_a103.ext Ex128
  have A128_a107 := A127_a107.ext Ex128
  have A128_a109 := A127_a109.ext Ex128
  have A128_a111 := A127_a111.ext Ex128
  have A128_a113 := A127_a113.ext Ex128
  have A128_a115 := A127_a115.ext Ex128
  have A128_a117 := A127_a117.ext Ex128
  have A128_a121 := A127_a121.ext Ex128
  have Gh128 : h0.size ≤ a128 := Nat.le_trans K127.1 (Nat.le_of_eq g128.symm)
  have K128 : Keep h0 h128 [o0] := K127.ext Ex128
  have Ge128 : n0 ≤ a128 := Nat.le_trans Z127 (Nat.le_of_eq g128.symm)
  have Z128 : n0 ≤ h128.size := Nat.le_trans Z127 Ex128.1
  have U128 := U127.ext Ex128
  refine ow_putF C X128 e128 (hw _ (List.mem_of_getElem? (i := 55) rfl)) (U128 "com/example/narrow_view/narrowview/StartTags" "suppliedPrefixes" "[Ljava/lang/String;" (.array (.object "java/lang/String")) (Or.inl (hw _ (List.mem_of_getElem? (i := 56) rfl))) (by decide) (by decide)) E128_0 (Or.inl (hw _ (List.mem_of_getElem? (i := 56) rfl))) (hw _ (List.mem_of_getElem? (i := 6) rfl)) (ty := (.array (.object "java/lang/String"))) (by decide) rfl rfl d2_155 (pc' := 158) rfl (fun T129 h129 X129 e129 W129 => ?_)
  have E129_0 := E128_0.wr W129
  have F129_1 := F128_1.other W129 (Or.inr (slot_ne (Or.inl (hw _ (List.mem_of_getElem? (i := 17) rfl))) (Or.inl (hw _ (List.mem_of_getElem? (i := 56) rfl))) (by decide) (t := (.array (.object "java/lang/String"))) (t' := (.array (.object "java/lang/String"))) (by decide) (by decide)))
  have F129_2 := F128_2.other W129 (Or.inr (slot_ne (Or.inl (hw _ (List.mem_of_getElem? (i := 19) rfl))) (Or.inl (hw _ (List.mem_of_getElem? (i := 56) rfl))) (by decide) (t := (.array (.object "java/lang/String"))) (t' := (.array (.object "java/lang/String"))) (by decide) (by decide)))
  have F129_3 := F128_3.other W129 (Or.inr (slot_ne (Or.inl (hw _ (List.mem_of_getElem? (i := 21) rfl))) (Or.inl (hw _ (List.mem_of_getElem? (i := 56) rfl))) (by decide) (t := (.array (.object "java/lang/String"))) (t' := (.array (.object "java/lang/String"))) (by decide) (by decide)))
  have F129_4 := F128_4.other W129 (Or.inr (slot_ne (Or.inl (hw _ (List.mem_of_getElem? (i := 24) rfl))) (Or.inl (hw _ (List.mem_of_getElem? (i := 56) rfl))) (by decide) (t := (.array .int)) (t' := (.array (.object "java/lang/String"))) (by decide) (by decide)))
  have F129_5 := F128_5.other W129 (Or.inr (slot_ne (Or.inl (hw _ (List.mem_of_getElem? (i := 26) rfl))) (Or.inl (hw _ (List.mem_of_getElem? (i := 56) rfl))) (by decide) (t := (.array .int)) (t' := (.array (.object "java/lang/String"))) (by decide) (by decide)))
  have F129_6 := F128_6.other W129 (Or.inr (slot_ne (Or.inl (hw _ (List.mem_of_getElem? (i := 33) rfl))) (Or.inl (hw _ (List.mem_of_getElem? (i := 56) rfl))) (by decide) (t := (.array .boolean)) (t' := (.array (.object "java/lang/String"))) (by decide) (by decide)))
  have F129_7 := F128_7.other W129 (Or.inr (slot_ne (Or.inl (hw _ (List.mem_of_getElem? (i := 35) rfl))) (Or.inl (hw _ (List.mem_of_getElem? (i := 56) rfl))) (by decide) (t := (.array (.object "java/lang/String"))) (t' := (.array (.object "java/lang/String"))) (by decide) (by decide)))
  have F129_8 := F128_8.other W129 (Or.inr (slot_ne (Or.inl (hw _ (List.mem_of_getElem? (i := 37) rfl))) (Or.inl (hw _ (List.mem_of_getElem? (i := 56) rfl))) (by decide) (t := (.array (.object "java/lang/String"))) (t' := (.array (.object "java/lang/String"))) (by decide) (by decide)))
  have F129_9 := F128_9.other W129 (Or.inr (slot_ne (Or.inl (hw _ (List.mem_of_getElem? (i := 39) rfl))) (Or.inl (hw _ (List.mem_of_getElem? (i := 56) rfl))) (by decide) (t := (.array (.object "java/lang/String"))) (t' := (.array (.object "java/lang/String"))) (by decide) (by decide)))
  have F129_10 := F128_10.other W129 (Or.inr (slot_ne (Or.inl (hw _ (List.mem_of_getElem? (i := 41) rfl))) (Or.inl (hw _ (List.mem_of_getElem? (i := 56) rfl))) (by decide) (t := (.array (.object "java/lang/String"))) (t' := (.array (.object "java/lang/String"))) (by decide) (by decide)))
  have F129_11 := F128_11.other W129 (Or.inr (slot_ne (Or.inl (hw _ (List.mem_of_getElem? (i := 43) rfl))) (Or.inl (hw _ (List.mem_of_getElem? (i := 56) rfl))) (by decide) (t := (.array (.object "java/lang/String"))) (t' := (.array (.object "java/lang/String"))) (by decide) (by decide)))
  have F129_12 := F128_12.other W129 (Or.inr (slot_ne (Or.inl (hw _ (List.mem_of_getElem? (i := 48) rfl))) (Or.inl (hw _ (List.mem_of_getElem? (i := 56) rfl))) (by decide) (t := (.array .char)) (t' := (.array (.object "java/lang/String"))) (by decide) (by decide)))
  have F129_13 := F128_13.other W129 (Or.inr (slot_ne (Or.inl (hw _ (List.mem_of_getElem? (i := 50) rfl))) (Or.inl (hw _ (List.mem_of_getElem? (i := 56) rfl))) (by decide) (t := .int) (t' := (.array (.object "java/lang/String"))) (by decide) (by decide)))
  have F129_14 := (U128 "com/example/narrow_view/narrowview/StartTags" "suppliedPrefixes" "[Ljava/lang/String;" (.array (.object "java/lang/String")) (Or.inl (hw _ (List.mem_of_getElem? (i := 56) rfl))) (by decide) (by decide)).same W129
  have A129_a95 := A128_a95.other W129 (Ne.symm (Nat.ne_of_lt lq95_o0))
  have A129_a97 := A128_a97.other W129 (Ne.symm (Nat.ne_of_lt lq97_o0))
  have A129_a99 := A128_a99.other W129 (Ne.symm (Nat.ne_of_lt lq99_o0))
  have A129_a101 := A128_a101.other W129 (Ne.symm (Nat.ne_of_lt lq101_o0))
  have A129_a103 := A128_a103.other W129 (Ne.symm (Nat.ne_of_lt lq103_o0))
  have A129_a107 := A128_a107.other W129 (Ne.symm (Nat.ne_of_lt lq107_o0))
  have A129_a109 := A128_a109.other W129 (Ne.symm (Nat.ne_of_lt lq109_o0))
  have A129_a111 := A128_a111.other W129 (Ne.symm (Nat.ne_of_lt lq111_o0))
  have A129_a113 := A128_a113.other W129 (Ne.symm (Nat.ne_of_lt lq113_o0))
  have A129_a115 := A128_a115.other W129 (Ne.symm (Nat.ne_of_lt lq115_o0))
  have A129_a117 := A128_a117.other W129 (Ne.symm (Nat.ne_of_lt lq117_o0))
  have A129_a121 := A128_a121.other W129 (Ne.symm (Nat.ne_of_lt lq121_o0))
  have A129_a128 := A128.other W129 (Ne.symm (Nat.ne_of_lt lq128_o0))
  have K129 : Keep h0 h129 [o0] := K128.wr W129 (Or.inl (List.mem_singleton.mpr rfl))
  have N129 := Fr.snoc X129 N127 g0
  have Z129 : n0 ≤ h129.size := by rw [W129.size]; exact Z128
  have U129 := OwU.put (ty := (.array (.object "java/lang/String"))) U128 W129 (Or.inl (hw _ (List.mem_of_getElem? (i := 56) rfl))) (by decide)
  refine ow_aloadN C X129 d2_158 rfl rfl (pc' := 159) rfl ?_
  refine ow_bipush (16 : Int32) C X129 d2_159 (by decide) (pc' := 161) rfl ?_
  refine ow_newarr C X129 e129 (hw _ (List.mem_of_getElem? (i := 22) rfl)) d2_161 (N := 16) (cap := 16) (by decide) (by decide) (Nat.le_of_ble_eq_true rfl) (Nat.le_of_ble_eq_true rfl) (Nat.le_of_ble_eq_true rfl) (Nat.le_of_ble_eq_true rfl) (pc' := 163) rfl (fun T130 h130 a130 g130 X130 e130 Ex130 A130 => ?_)
  have A130 : OwA Z h130 a130 .int 16 (fun _ => .int 0) := A130
  have lq130_o0 : o0 < a130 := Nat.lt_of_lt_of_le E129_0.lt (Nat.le_of_eq g130.symm)
  have lq130_a95 : a95 < a130 := Nat.lt_of_lt_of_le A129_a95.lt (Nat.le_of_eq g130.symm)
  have lq130_a97 : a97 < a130 := Nat.lt_of_lt_of_le A129_a97.lt (Nat.le_of_eq g130.symm)
  have lq130_a99 : a99 < a130 := Nat.lt_of_lt_of_le A129_a99.lt (Nat.le_of_eq g130.symm)
  have lq130_a101 : a101 < a130 := Nat.lt_of_lt_of_le A129_a101.lt (Nat.le_of_eq g130.symm)
  have lq130_a103 : a103 < a130 := Nat.lt_of_lt_of_le A129_a103.lt (Nat.le_of_eq g130.symm)
  have lq130_a107 : a107 < a130 := Nat.lt_of_lt_of_le A129_a107.lt (Nat.le_of_eq g130.symm)
  have lq130_a109 : a109 < a130 := Nat.lt_of_lt_of_le A129_a109.lt (Nat.le_of_eq g130.symm)
  have lq130_a111 : a111 < a130 := Nat.lt_of_lt_of_le A129_a111.lt (Nat.le_of_eq g130.symm)
  have lq130_a113 : a113 < a130 := Nat.lt_of_lt_of_le A129_a113.lt (Nat.le_of_eq g130.symm)
  have lq130_a115 : a115 < a130 := Nat.lt_of_lt_of_le A129_a115.lt (Nat.le_of_eq g130.symm)
  have lq130_a117 : a117 < a130 := Nat.lt_of_lt_of_le A129_a117.lt (Nat.le_of_eq g130.symm)
  have lq130_a121 : a121 < a130 := Nat.lt_of_lt_of_le A129_a121.lt (Nat.le_of_eq g130.symm)
  have E130_0 := E129_0.ext Ex130
  have F130_1 := F129_1.ext Ex130
  have F130_2 := F129_2.ext Ex130
  have F130_3 := F129_3.ext Ex130
  have F130_4 := F129_4.ext Ex130
  have F130_5 := F129_5.ext Ex130
  have F130_6 := F129_6.ext Ex130
  have F130_7 := F129_7.ext Ex130
  have F130_8 := F129_8.ext Ex130
  have F130_9 := F129_9.ext Ex130
  have F130_10 := F129_10.ext Ex130
  have F130_11 := F129_11.ext Ex130
  have F130_12 := F129_12.ext Ex130
  have F130_13 := F129_13.ext Ex130
  have A130_a95 := A129_a95.ext Ex130
  have A130_a97 := A129_a97.ext Ex130
  have A130_a99 := A129_a99.ext Ex130
  have A130_a101 := A129_a101.ext Ex130
  have A130_a103 := A129_a103.ext Ex130
  have A130_a107 := A129_a107.ext Ex130
  have A130_a109 := A129_a109.ext Ex130
  have A130_a111 := A129_a111.ext Ex130
  have A130_a113 := A129_a113.ext Ex130
  have A130_a115 := A129_a115.ext Ex130
  have A130_a117 := A129_a117.ext Ex130
  have A130_a121 := A129_a121.ext Ex130
  have Gh130 : h0.size ≤ a130 := Nat.le_trans K129.1 (Nat.le_of_eq g130.symm)
  have K130 : Keep h0 h130 [o0] := K129.ext Ex130
  have Ge130 : n0 ≤ a130 := Nat.le_trans Z129 (Nat.le_of_eq g130.symm)
  have Z130 : n0 ≤ h130.size := Nat.le_trans Z129 Ex130.1
  have U130 := U129.ext Ex130
  refine ow_putF C X130 e130 (hw _ (List.mem_of_getElem? (i := 57) rfl)) (U130 "com/example/narrow_view/narrowview/StartTags" "suppliedValueEnds" "[I" (.array .int) (Or.inl (hw _ (List.mem_of_getElem? (i := 58) rfl))) (by decide) (by decide)) E130_0 (Or.inl (hw _ (List.mem_of_getElem? (i := 58) rfl))) (hw _ (List.mem_of_getElem? (i := 6) rfl)) (ty := (.array .int)) (by decide) rfl rfl d2_163 (pc' := 166) rfl (fun T131 h131 X131 e131 W131 => ?_)
  have E131_0 := E130_0.wr W131
  have F131_1 := F130_1.other W131 (Or.inr (slot_ne (Or.inl (hw _ (List.mem_of_getElem? (i := 17) rfl))) (Or.inl (hw _ (List.mem_of_getElem? (i := 58) rfl))) (by decide) (t := (.array (.object "java/lang/String"))) (t' := (.array .int)) (by decide) (by decide)))
  have F131_2 := F130_2.other W131 (Or.inr (slot_ne (Or.inl (hw _ (List.mem_of_getElem? (i := 19) rfl))) (Or.inl (hw _ (List.mem_of_getElem? (i := 58) rfl))) (by decide) (t := (.array (.object "java/lang/String"))) (t' := (.array .int)) (by decide) (by decide)))
  have F131_3 := F130_3.other W131 (Or.inr (slot_ne (Or.inl (hw _ (List.mem_of_getElem? (i := 21) rfl))) (Or.inl (hw _ (List.mem_of_getElem? (i := 58) rfl))) (by decide) (t := (.array (.object "java/lang/String"))) (t' := (.array .int)) (by decide) (by decide)))
  have F131_4 := F130_4.other W131 (Or.inr (slot_ne (Or.inl (hw _ (List.mem_of_getElem? (i := 24) rfl))) (Or.inl (hw _ (List.mem_of_getElem? (i := 58) rfl))) (by decide) (t := (.array .int)) (t' := (.array .int)) (by decide) (by decide)))
  have F131_5 := F130_5.other W131 (Or.inr (slot_ne (Or.inl (hw _ (List.mem_of_getElem? (i := 26) rfl))) (Or.inl (hw _ (List.mem_of_getElem? (i := 58) rfl))) (by decide) (t := (.array .int)) (t' := (.array .int)) (by decide) (by decide)))
  have F131_6 := F130_6.other W131 (Or.inr (slot_ne (Or.inl (hw _ (List.mem_of_getElem? (i := 33) rfl))) (Or.inl (hw _ (List.mem_of_getElem? (i := 58) rfl))) (by decide) (t := (.array .boolean)) (t' := (.array .int)) (by decide) (by decide)))
  have F131_7 := F130_7.other W131 (Or.inr (slot_ne (Or.inl (hw _ (List.mem_of_getElem? (i := 35) rfl))) (Or.inl (hw _ (List.mem_of_getElem? (i := 58) rfl))) (by decide) (t := (.array (.object "java/lang/String"))) (t' := (.array .int)) (by decide) (by decide)))
  have F131_8 := F130_8.other W131 (Or.inr (slot_ne (Or.inl (hw _ (List.mem_of_getElem? (i := 37) rfl))) (Or.inl (hw _ (List.mem_of_getElem? (i := 58) rfl))) (by decide) (t := (.array (.object "java/lang/String"))) (t' := (.array .int)) (by decide) (by decide)))
  have F131_9 := F130_9.other W131 (Or.inr (slot_ne (Or.inl (hw _ (List.mem_of_getElem? (i := 39) rfl))) (Or.inl (hw _ (List.mem_of_getElem? (i := 58) rfl))) (by decide) (t := (.array (.object "java/lang/String"))) (t' := (.array .int)) (by decide) (by decide)))
  have F131_10 := F130_10.other W131 (Or.inr (slot_ne (Or.inl (hw _ (List.mem_of_getElem? (i := 41) rfl))) (Or.inl (hw _ (List.mem_of_getElem? (i := 58) rfl))) (by decide) (t := (.array (.object "java/lang/String"))) (t' := (.array .int)) (by decide) (by decide)))
  have F131_11 := F130_11.other W131 (Or.inr (slot_ne (Or.inl (hw _ (List.mem_of_getElem? (i := 43) rfl))) (Or.inl (hw _ (List.mem_of_getElem? (i := 58) rfl))) (by decide) (t := (.array (.object "java/lang/String"))) (t' := (.array .int)) (by decide) (by decide)))
  have F131_12 := F130_12.other W131 (Or.inr (slot_ne (Or.inl (hw _ (List.mem_of_getElem? (i := 48) rfl))) (Or.inl (hw _ (List.mem_of_getElem? (i := 58) rfl))) (by decide) (t := (.array .char)) (t' := (.array .int)) (by decide) (by decide)))
  have F131_13 := F130_13.other W131 (Or.inr (slot_ne (Or.inl (hw _ (List.mem_of_getElem? (i := 50) rfl))) (Or.inl (hw _ (List.mem_of_getElem? (i := 58) rfl))) (by decide) (t := .int) (t' := (.array .int)) (by decide) (by decide)))
  have F131_14 := (U130 "com/example/narrow_view/narrowview/StartTags" "suppliedValueEnds" "[I" (.array .int) (Or.inl (hw _ (List.mem_of_getElem? (i := 58) rfl))) (by decide) (by decide)).same W131
  have A131_a95 := A130_a95.other W131 (Ne.symm (Nat.ne_of_lt lq95_o0))
  have A131_a97 := A130_a97.other W131 (Ne.symm (Nat.ne_of_lt lq97_o0))
  have A131_a99 := A130_a99.other W131 (Ne.symm (Nat.ne_of_lt lq99_o0))
  have A131_a101 := A130_a101.other W131 (Ne.symm (Nat.ne_of_lt lq101_o0))
  have A131_a103 := A130_a103.other W131 (Ne.symm (Nat.ne_of_lt lq103_o0))
  have A131_a107 := A130_a107.other W131 (Ne.symm (Nat.ne_of_lt lq107_o0))
  have A131_a109 := A130_a109.other W131 (Ne.symm (Nat.ne_of_lt lq109_o0))
  have A131_a111 := A130_a111.other W131 (Ne.symm (Nat.ne_of_lt lq111_o0))
  have A131_a113 := A130_a113.other W131 (Ne.symm (Nat.ne_of_lt lq113_o0))
  have A131_a115 := A130_a115.other W131 (Ne.symm (Nat.ne_of_lt lq115_o0))
  have A131_a117 := A130_a117.other W131 (Ne.symm (Nat.ne_of_lt lq117_o0))
  have A131_a121 := A130_a121.other W131 (Ne.symm (Nat.ne_of_lt lq121_o0))
  have A131_a130 := A130.other W131 (Ne.symm (Nat.ne_of_lt lq130_o0))
  have K131 : Keep h0 h131 [o0] := K130.wr W131 (Or.inl (List.mem_singleton.mpr rfl))
  have N131 := Fr.snoc X131 N129 g0
  have Z131 : n0 ≤ h131.size := by rw [W131.size]; exact Z130
  have U131 := OwU.put (ty := (.array .int)) U130 W131 (Or.inl (hw _ (List.mem_of_getElem? (i := 58) rfl))) (by decide)
  refine ow_aloadN C X131 d2_166 rfl rfl (pc' := 167) rfl ?_
  refine ow_new C X131 e131 (hw _ (List.mem_of_getElem? (i := 59) rfl)) (hw _ (List.mem_of_getElem? (i := 60) rfl)) (hw _ (List.mem_of_getElem? (i := 61) rfl)) d2_167 (Nat.le_of_ble_eq_true rfl) (Nat.le_of_ble_eq_true rfl) (pc' := 170) rfl (fun T132 h132 a132 g132 X132 e132 Ex132 A132 D132 => ?_)
  have lq132_o0 : o0 < a132 := Nat.lt_of_lt_of_le E131_0.lt (Nat.le_of_eq g132.symm)
  have lq132_a95 : a95 < a132 := Nat.lt_of_lt_of_le A131_a95.lt (Nat.le_of_eq g132.symm)
  have lq132_a97 : a97 < a132 := Nat.lt_of_lt_of_le A131_a97.lt (Nat.le_of_eq g132.symm)
  have lq132_a99 : a99 < a132 := Nat.lt_of_lt_of_le A131_a99.lt (Nat.le_of_eq g132.symm)
  have lq132_a101 : a101 < a132 := Nat.lt_of_lt_of_le A131_a101.lt (Nat.le_of_eq g132.symm)
  have lq132_a103 : a103 < a132 := Nat.lt_of_lt_of_le A131_a103.lt (Nat.le_of_eq g132.symm)
  have lq132_a107 : a107 < a132 := Nat.lt_of_lt_of_le A131_a107.lt (Nat.le_of_eq g132.symm)
  have lq132_a109 : a109 < a132 := Nat.lt_of_lt_of_le A131_a109.lt (Nat.le_of_eq g132.symm)
  have lq132_a111 : a111 < a132 := Nat.lt_of_lt_of_le A131_a111.lt (Nat.le_of_eq g132.symm)
  have lq132_a113 : a113 < a132 := Nat.lt_of_lt_of_le A131_a113.lt (Nat.le_of_eq g132.symm)
  have lq132_a115 : a115 < a132 := Nat.lt_of_lt_of_le A131_a115.lt (Nat.le_of_eq g132.symm)
  have lq132_a117 : a117 < a132 := Nat.lt_of_lt_of_le A131_a117.lt (Nat.le_of_eq g132.symm)
  have lq132_a121 : a121 < a132 := Nat.lt_of_lt_of_le A131_a121.lt (Nat.le_of_eq g132.symm)
  have E132_0 := E131_0.ext Ex132
  have F132_1 := F131_1.ext Ex132
  have F132_2 := F131_2.ext Ex132
  have F132_3 := F131_3.ext Ex132
  have F132_4 := F131_4.ext Ex132
  have F132_5 := F131_5.ext Ex132
  have F132_6 := F131_6.ext Ex132
  have F132_7 := F131_7.ext Ex132
  have F132_8 := F131_8.ext Ex132
  have F132_9 := F131_9.ext Ex132
  have F132_10 := F131_10.ext Ex132
  have F132_11 := F131_11.ext Ex132
  have F132_12 := F131_12.ext Ex132
  have F132_13 := F131_13.ext Ex132
  have A132_a95 := A131_a95.ext Ex132
  have A132_a97 := A131_a97.ext Ex132
  have A132_a99 := A131_a99.ext Ex132
  have A132_a101 := A131_a101.ext Ex132
  have A132_a103 := A131_a103.ext Ex132
  have A132_a107 := A131_a107.ext Ex132
  have A132_a109 := A131_a109.ext Ex132
  have A132_a111 := A131_a111.ext Ex132
  have A132_a113 := A131_a113.ext Ex132
  have A132_a115 := A131_a115.ext Ex132
  have A132_a117 := A131_a117.ext Ex132
  have A132_a121 := A131_a121.ext Ex132
  have Gh132 : h0.size ≤ a132 := Nat.le_trans K131.1 (Nat.le_of_eq g132.symm)
  have K132 : Keep h0 h132 [o0] := K131.ext Ex132
  have Ge132 : n0 ≤ a132 := Nat.le_trans Z131 (Nat.le_of_eq g132.symm)
  have Z132 : n0 ≤ h132.size := Nat.le_trans Z131 Ex132.1
  have Fn132_0 : Fld Z h132 a132 "com/example/narrow_view/narrowview/CharBuilder" "chars" "[C" .null := D132 (Or.inl (hw _ (List.mem_of_getElem? (i := 67) rfl))) (ty := (.array .char)) (by decide)
  have U132 := U131.ext Ex132
  refine ow_dup C X132 d2_170 rfl (pc' := 171) rfl ?_
  refine ow_callN C X132 e132 rfl (hw _ (List.mem_of_getElem? (i := 62) rfl)) (hw _ (List.mem_of_getElem? (i := 63) rfl)) (hw _ (List.mem_of_getElem? (i := 61) rfl)) (hw _ (List.mem_of_getElem? (i := 64) rfl)) (by decide) (rm_cbi l Z a0 hw a132 h132 n0 Z132 A132 .null Fn132_0 Ge132) pd_6 rfl (argsL := []) (rest := [(.ref a132), (.ref o0)]) rfl rfl d2_171 (Nat.le_of_ble_eq_true rfl) (Nat.le_of_ble_eq_true rfl) (Nat.le_of_ble_eq_true rfl) (Nat.le_of_ble_eq_true rfl) (pc' := 174) rfl (fun T133 v133 L133 X133 Q133 => ?_)
  obtain ⟨rfl, N133, K133⟩ := Q133
  have E133_0 := E132_0.keep K133
  have E133_1 := A132.keep K133
  have F133_2 := F132_1.keep K133 (own_nm1 (Nat.ne_of_lt lq132_o0))
  have F133_3 := F132_2.keep K133 (own_nm1 (Nat.ne_of_lt lq132_o0))
  have F133_4 := F132_3.keep K133 (own_nm1 (Nat.ne_of_lt lq132_o0))
  have F133_5 := F132_4.keep K133 (own_nm1 (Nat.ne_of_lt lq132_o0))
  have F133_6 := F132_5.keep K133 (own_nm1 (Nat.ne_of_lt lq132_o0))
  have F133_7 := F132_6.keep K133 (own_nm1 (Nat.ne_of_lt lq132_o0))
  have F133_8 := F132_7.keep K133 (own_nm1 (Nat.ne_of_lt lq132_o0))
  have F133_9 := F132_8.keep K133 (own_nm1 (Nat.ne_of_lt lq132_o0))
  have F133_10 := F132_9.keep K133 (own_nm1 (Nat.ne_of_lt lq132_o0))
  have F133_11 := F132_10.keep K133 (own_nm1 (Nat.ne_of_lt lq132_o0))
  have F133_12 := F132_11.keep K133 (own_nm1 (Nat.ne_of_lt lq132_o0))
  have F133_13 := F132_12.keep K133 (own_nm1 (Nat.ne_of_lt lq132_o0))
  have F133_14 := F132_13.keep K133 (own_nm1 (Nat.ne_of_lt lq132_o0))
  have A133_a95 := A132_a95.keep K133 (own_nm1 (Nat.ne_of_lt lq132_a95))
  have A133_a97 := A132_a97.keep K133 (own_nm1 (Nat.ne_of_lt lq132_a97))
  have A133_a99 := A132_a99.keep K133 (own_nm1 (Nat.ne_of_lt lq132_a99))
  have A133_a101 := A132_a101.keep K133 (own_nm1 (Nat.ne_of_lt lq132_a101))
  have A133_a103 := A132_a103.keep K133 (own_nm1 (Nat.ne_of_lt lq132_a103))
  have A133_a107 := A132_a107.keep K133 (own_nm1 (Nat.ne_of_lt lq132_a107))
  have A133_a109 := A132_a109.keep K133 (own_nm1 (Nat.ne_of_lt lq132_a109))
  have A133_a111 := A132_a111.keep K133 (own_nm1 (Nat.ne_of_lt lq132_a111))
  have A133_a113 := A132_a113.keep K133 (own_nm1 (Nat.ne_of_lt lq132_a113))
  have A133_a115 := A132_a115.keep K133 (own_nm1 (Nat.ne_of_lt lq132_a115))
  have A133_a117 := A132_a117.keep K133 (own_nm1 (Nat.ne_of_lt lq132_a117))
  have A133_a121 := A132_a121.keep K133 (own_nm1 (Nat.ne_of_lt lq132_a121))
  have Kc133 := K132.trans K133 (own_kt Gh132)
  have Nn133 := Fr.app N131 N133
  have Z133 : n0 ≤ T133.heap.size := Nat.le_trans Z132 K133.1
  have U133 := U132.keep K133 (own_nm (Nat.ne_of_lt lq132_o0))
  show OwF p e below _ T133 (mkF m 174 #[.val (.ref o0)] [(.ref a132), (.ref o0)])
  refine ow_putF C X133 rfl (hw _ (List.mem_of_getElem? (i := 68) rfl)) (U133 "com/example/narrow_view/narrowview/StartTags" "suppliedValues" "Lcom/example/narrow_view/narrowview/CharBuilder;" (.object "com/example/narrow_view/narrowview/CharBuilder") (Or.inr (hw _ (List.mem_of_getElem? (i := 69) rfl))) (by decide) (by decide)) E133_0 (Or.inr ⟨(hw _ (List.mem_of_getElem? (i := 69) rfl)), rfl, rfl⟩) (hw _ (List.mem_of_getElem? (i := 6) rfl)) (ty := (.object "com/example/narrow_view/narrowview/CharBuilder")) (by decide) rfl rfl d2_174 (pc' := 177) rfl (fun T134 h134 X134 e134 W134 => ?_)
  have E134_0 := E133_0.wr W134
  have E134_1 := E133_1.wr W134
  have F134_2 := F133_2.other W134 (Or.inr (slot_ne (Or.inl (hw _ (List.mem_of_getElem? (i := 17) rfl))) (Or.inr (hw _ (List.mem_of_getElem? (i := 69) rfl))) (by decide) (t := (.array (.object "java/lang/String"))) (t' := (.object "com/example/narrow_view/narrowview/CharBuilder")) (by decide) (by decide)))
  have F134_3 := F133_3.other W134 (Or.inr (slot_ne (Or.inl (hw _ (List.mem_of_getElem? (i := 19) rfl))) (Or.inr (hw _ (List.mem_of_getElem? (i := 69) rfl))) (by decide) (t := (.array (.object "java/lang/String"))) (t' := (.object "com/example/narrow_view/narrowview/CharBuilder")) (by decide) (by decide)))
  have F134_4 := F133_4.other W134 (Or.inr (slot_ne (Or.inl (hw _ (List.mem_of_getElem? (i := 21) rfl))) (Or.inr (hw _ (List.mem_of_getElem? (i := 69) rfl))) (by decide) (t := (.array (.object "java/lang/String"))) (t' := (.object "com/example/narrow_view/narrowview/CharBuilder")) (by decide) (by decide)))
  have F134_5 := F133_5.other W134 (Or.inr (slot_ne (Or.inl (hw _ (List.mem_of_getElem? (i := 24) rfl))) (Or.inr (hw _ (List.mem_of_getElem? (i := 69) rfl))) (by decide) (t := (.array .int)) (t' := (.object "com/example/narrow_view/narrowview/CharBuilder")) (by decide) (by decide)))
  have F134_6 := F133_6.other W134 (Or.inr (slot_ne (Or.inl (hw _ (List.mem_of_getElem? (i := 26) rfl))) (Or.inr (hw _ (List.mem_of_getElem? (i := 69) rfl))) (by decide) (t := (.array .int)) (t' := (.object "com/example/narrow_view/narrowview/CharBuilder")) (by decide) (by decide)))
  have F134_7 := F133_7.other W134 (Or.inr (slot_ne (Or.inl (hw _ (List.mem_of_getElem? (i := 33) rfl))) (Or.inr (hw _ (List.mem_of_getElem? (i := 69) rfl))) (by decide) (t := (.array .boolean)) (t' := (.object "com/example/narrow_view/narrowview/CharBuilder")) (by decide) (by decide)))
  have F134_8 := F133_8.other W134 (Or.inr (slot_ne (Or.inl (hw _ (List.mem_of_getElem? (i := 35) rfl))) (Or.inr (hw _ (List.mem_of_getElem? (i := 69) rfl))) (by decide) (t := (.array (.object "java/lang/String"))) (t' := (.object "com/example/narrow_view/narrowview/CharBuilder")) (by decide) (by decide)))
  have F134_9 := F133_9.other W134 (Or.inr (slot_ne (Or.inl (hw _ (List.mem_of_getElem? (i := 37) rfl))) (Or.inr (hw _ (List.mem_of_getElem? (i := 69) rfl))) (by decide) (t := (.array (.object "java/lang/String"))) (t' := (.object "com/example/narrow_view/narrowview/CharBuilder")) (by decide) (by decide)))
  have F134_10 := F133_10.other W134 (Or.inr (slot_ne (Or.inl (hw _ (List.mem_of_getElem? (i := 39) rfl))) (Or.inr (hw _ (List.mem_of_getElem? (i := 69) rfl))) (by decide) (t := (.array (.object "java/lang/String"))) (t' := (.object "com/example/narrow_view/narrowview/CharBuilder")) (by decide) (by decide)))
  have F134_11 := F133_11.other W134 (Or.inr (slot_ne (Or.inl (hw _ (List.mem_of_getElem? (i := 41) rfl))) (Or.inr (hw _ (List.mem_of_getElem? (i := 69) rfl))) (by decide) (t := (.array (.object "java/lang/String"))) (t' := (.object "com/example/narrow_view/narrowview/CharBuilder")) (by decide) (by decide)))
  have F134_12 := F133_12.other W134 (Or.inr (slot_ne (Or.inl (hw _ (List.mem_of_getElem? (i := 43) rfl))) (Or.inr (hw _ (List.mem_of_getElem? (i := 69) rfl))) (by decide) (t := (.array (.object "java/lang/String"))) (t' := (.object "com/example/narrow_view/narrowview/CharBuilder")) (by decide) (by decide)))
  have F134_13 := F133_13.other W134 (Or.inr (slot_ne (Or.inl (hw _ (List.mem_of_getElem? (i := 48) rfl))) (Or.inr (hw _ (List.mem_of_getElem? (i := 69) rfl))) (by decide) (t := (.array .char)) (t' := (.object "com/example/narrow_view/narrowview/CharBuilder")) (by decide) (by decide)))
  have F134_14 := F133_14.other W134 (Or.inr (slot_ne (Or.inl (hw _ (List.mem_of_getElem? (i := 50) rfl))) (Or.inr (hw _ (List.mem_of_getElem? (i := 69) rfl))) (by decide) (t := .int) (t' := (.object "com/example/narrow_view/narrowview/CharBuilder")) (by decide) (by decide)))
  have F134_15 := (U133 "com/example/narrow_view/narrowview/StartTags" "suppliedValues" "Lcom/example/narrow_view/narrowview/CharBuilder;" (.object "com/example/narrow_view/narrowview/CharBuilder") (Or.inr (hw _ (List.mem_of_getElem? (i := 69) rfl))) (by decide) (by decide)).same W134
  have A134_a95 := A133_a95.other W134 (Ne.symm (Nat.ne_of_lt lq95_o0))
  have A134_a97 := A133_a97.other W134 (Ne.symm (Nat.ne_of_lt lq97_o0))
  have A134_a99 := A133_a99.other W134 (Ne.symm (Nat.ne_of_lt lq99_o0))
  have A134_a101 := A133_a101.other W134 (Ne.symm (Nat.ne_of_lt lq101_o0))
  have A134_a103 := A133_a103.other W134 (Ne.symm (Nat.ne_of_lt lq103_o0))
  have A134_a107 := A133_a107.other W134 (Ne.symm (Nat.ne_of_lt lq107_o0))
  have A134_a109 := A133_a109.other W134 (Ne.symm (Nat.ne_of_lt lq109_o0))
  have A134_a111 := A133_a111.other W134 (Ne.symm (Nat.ne_of_lt lq111_o0))
  have A134_a113 := A133_a113.other W134 (Ne.symm (Nat.ne_of_lt lq113_o0))
  have A134_a115 := A133_a115.other W134 (Ne.symm (Nat.ne_of_lt lq115_o0))
  have A134_a117 := A133_a117.other W134 (Ne.symm (Nat.ne_of_lt lq117_o0))
  have A134_a121 := A133_a121.other W134 (Ne.symm (Nat.ne_of_lt lq121_o0))
  have K134 : Keep h0 h134 [o0] := Kc133.wr W134 (Or.inl (List.mem_singleton.mpr rfl))
  have N134 := Fr.snoc X134 Nn133 g0
  have Z134 : n0 ≤ h134.size := by rw [W134.size]; exact Z133
  have U134 := OwU.put (ty := (.object "com/example/narrow_view/narrowview/CharBuilder")) U133 W134 (Or.inr (hw _ (List.mem_of_getElem? (i := 69) rfl))) (by decide)
  refine ow_aloadN C X134 d2_177 rfl rfl (pc' := 178) rfl ?_
  refine ow_new C X134 e134 (hw _ (List.mem_of_getElem? (i := 70) rfl)) (hw _ (List.mem_of_getElem? (i := 71) rfl)) (hw _ (List.mem_of_getElem? (i := 72) rfl)) d2_178 (Nat.le_of_ble_eq_true rfl) (Nat.le_of_ble_eq_true rfl) (pc' := 181) rfl (fun T135 h135 a135 g135 X135 e135 Ex135 A135 D135 => ?_)
  have lq135_o0 : o0 < a135 := Nat.lt_of_lt_of_le E134_0.lt (Nat.le_of_eq g135.symm)
  have lq135_a95 : a95 < a135 := Nat.lt_of_lt_of_le A134_a95.lt (Nat.le_of_eq g135.symm)
  have lq135_a97 : a97 < a135 := Nat.lt_of_lt_of_le A134_a97.lt (Nat.le_of_eq g135.symm)
  have lq135_a99 : a99 < a135 := Nat.lt_of_lt_of_le A134_a99.lt (Nat.le_of_eq g135.symm)
  have lq135_a101 : a101 < a135 := Nat.lt_of_lt_of_le A134_a101.lt (Nat.le_of_eq g135.symm)
  have lq135_a103 : a103 < a135 := Nat.lt_of_lt_of_le A134_a103.lt (Nat.le_of_eq g135.symm)
  have lq135_a107 : a107 < a135 := Nat.lt_of_lt_of_le A134_a107.lt (Nat.le_of_eq g135.symm)
  have lq135_a109 : a109 < a135 := Nat.lt_of_lt_of_le A134_a109.lt (Nat.le_of_eq g135.symm)
  have lq135_a111 : a111 < a135 := Nat.lt_of_lt_of_le A134_a111.lt (Nat.le_of_eq g135.symm)
  have lq135_a113 : a113 < a135 := Nat.lt_of_lt_of_le A134_a113.lt (Nat.le_of_eq g135.symm)
  have lq135_a115 : a115 < a135 := Nat.lt_of_lt_of_le A134_a115.lt (Nat.le_of_eq g135.symm)
  have lq135_a117 : a117 < a135 := Nat.lt_of_lt_of_le A134_a117.lt (Nat.le_of_eq g135.symm)
  have lq135_a121 : a121 < a135 := Nat.lt_of_lt_of_le A134_a121.lt (Nat.le_of_eq g135.symm)
  have E135_0 := E134_0.ext Ex135
  have F135_1 := F134_2.ext Ex135
  have F135_2 := F134_3.ext Ex135
  have F135_3 := F134_4.ext Ex135
  have F135_4 := F134_5.ext Ex135
  have F135_5 := F134_6.ext Ex135
  have F135_6 := F134_7.ext Ex135
  have F135_7 := F134_8.ext Ex135
  have F135_8 := F134_9.ext Ex135
  have F135_9 := F134_10.ext Ex135
  have F135_10 := F134_11.ext Ex135
  have F135_11 := F134_12.ext Ex135
  have F135_12 := F134_13.ext Ex135
  have F135_13 := F134_14.ext Ex135
  have A135_a95 := A134_a95.ext Ex135
  have A135_a97 := A134_a97.ext Ex135
  have A135_a99 := A134_a99.ext Ex135
  have A135_a101 := A134_a101.ext Ex135
  have A135_a103 := A134_a103.ext Ex135
  have A135_a107 := A134_a107.ext Ex135
  have A135_a109 := A134_a109.ext Ex135
  have A135_a111 := A134_a111.ext Ex135
  have A135_a113 := A134_a113.ext Ex135
  have A135_a115 := A134_a115.ext Ex135
  have A135_a117 := A134_a117.ext Ex135
  have A135_a121 := A134_a121.ext Ex135
  have Gh135 : h0.size ≤ a135 := Nat.le_trans K134.1 (Nat.le_of_eq g135.symm)
  have K135 : Keep h0 h135 [o0] := K134.ext Ex135
  have Ge135 : n0 ≤ a135 := Nat.le_trans Z134 (Nat.le_of_eq g135.symm)
  have Z135 : n0 ≤ h135.size := Nat.le_trans Z134 Ex135.1
  have Fn135_0 : Fld Z h135 a135 "com/example/narrow_view/narrowview/StartTags$1" "this$0" "Lcom/example/narrow_view/narrowview/StartTags;" .null := D135 (Or.inr (hw _ (List.mem_of_getElem? (i := 77) rfl))) (ty := (.object "com/example/narrow_view/narrowview/StartTags")) (by decide)
  have U135 := U134.ext Ex135
  refine ow_dup C X135 d2_181 rfl (pc' := 182) rfl ?_
  refine ow_aloadN C X135 d2_182 rfl rfl (pc' := 183) rfl ?_
  refine ow_callN C X135 e135 rfl (hw _ (List.mem_of_getElem? (i := 73) rfl)) (hw _ (List.mem_of_getElem? (i := 74) rfl)) (hw _ (List.mem_of_getElem? (i := 72) rfl)) (hw _ (List.mem_of_getElem? (i := 75) rfl)) (by decide) (rm_tgt l Z a0 hw a135 o0 .null h135 n0 A135 Ge135 Fn135_0) pd_7 rfl (argsL := [(.ref o0)]) (rest := [(.ref a135), (.ref o0)]) rfl rfl d2_183 (Nat.le_of_ble_eq_true rfl) (Nat.le_of_ble_eq_true rfl) (Nat.le_of_ble_eq_true rfl) (Nat.le_of_ble_eq_true rfl) (pc' := 186) rfl (fun T136 v136 L136 X136 Q136 => ?_)
  obtain ⟨rfl, N136, K136, E136, Fc136_0⟩ := Q136
  show OwF p e below _ T136 (mkF m 186 #[.val (.ref o0)] [(.ref a135), (.ref o0)])
  have E136_0 := E135_0.keep K136
  have E136_1 := E136
  have F136_2 := F135_1.keep K136 (own_nm (Nat.ne_of_lt lq135_o0))
  have F136_3 := F135_2.keep K136 (own_nm (Nat.ne_of_lt lq135_o0))
  have F136_4 := F135_3.keep K136 (own_nm (Nat.ne_of_lt lq135_o0))
  have F136_5 := F135_4.keep K136 (own_nm (Nat.ne_of_lt lq135_o0))
  have F136_6 := F135_5.keep K136 (own_nm (Nat.ne_of_lt lq135_o0))
  have F136_7 := F135_6.keep K136 (own_nm (Nat.ne_of_lt lq135_o0))
  have F136_8 := F135_7.keep K136 (own_nm (Nat.ne_of_lt lq135_o0))
  have F136_9 := F135_8.keep K136 (own_nm (Nat.ne_of_lt lq135_o0))
  have F136_10 := F135_9.keep K136 (own_nm (Nat.ne_of_lt lq135_o0))
  have F136_11 := F135_10.keep K136 (own_nm (Nat.ne_of_lt lq135_o0))
  have F136_12 := F135_11.keep K136 (own_nm (Nat.ne_of_lt lq135_o0))
  have F136_13 := F135_12.keep K136 (own_nm (Nat.ne_of_lt lq135_o0))
  have F136_14 := F135_13.keep K136 (own_nm (Nat.ne_of_lt lq135_o0))
  have Kc136 := K135.trans K136 (own_kt Gh135)
  have Nn136 := Fr.app N134 N136
  have Z136 : n0 ≤ T136.heap.size := Nat.le_trans Z135 K136.1
  have U136 := U135.keep K136 (own_nm (Nat.ne_of_lt lq135_o0))
  have A136_a95 := A135_a95.keep K136 (own_nm (Nat.ne_of_lt lq135_a95))
  have A136_a97 := A135_a97.keep K136 (own_nm (Nat.ne_of_lt lq135_a97))
  have A136_a99 := A135_a99.keep K136 (own_nm (Nat.ne_of_lt lq135_a99))
  have A136_a101 := A135_a101.keep K136 (own_nm (Nat.ne_of_lt lq135_a101))
  have A136_a103 := A135_a103.keep K136 (own_nm (Nat.ne_of_lt lq135_a103))
  have A136_a107 := A135_a107.keep K136 (own_nm (Nat.ne_of_lt lq135_a107))
  have A136_a109 := A135_a109.keep K136 (own_nm (Nat.ne_of_lt lq135_a109))
  have A136_a111 := A135_a111.keep K136 (own_nm (Nat.ne_of_lt lq135_a111))
  have A136_a113 := A135_a113.keep K136 (own_nm (Nat.ne_of_lt lq135_a113))
  have A136_a115 := A135_a115.keep K136 (own_nm (Nat.ne_of_lt lq135_a115))
  have A136_a117 := A135_a117.keep K136 (own_nm (Nat.ne_of_lt lq135_a117))
  have A136_a121 := A135_a121.keep K136 (own_nm (Nat.ne_of_lt lq135_a121))
  refine ow_putF C X136 rfl (hw _ (List.mem_of_getElem? (i := 79) rfl)) (U136 "com/example/narrow_view/narrowview/StartTags" "supplier" "Lcom/example/narrow_view/narrowview/TagDefaults$Target;" (.object "com/example/narrow_view/narrowview/TagDefaults$Target") (Or.inr (hw _ (List.mem_of_getElem? (i := 80) rfl))) (by decide) (by decide)) E136_0 (Or.inr ⟨(hw _ (List.mem_of_getElem? (i := 80) rfl)), rfl, rfl⟩) (hw _ (List.mem_of_getElem? (i := 6) rfl)) (ty := (.object "com/example/narrow_view/narrowview/TagDefaults$Target")) (by decide) rfl rfl d2_186 (pc' := 189) rfl (fun T137 h137 X137 e137 W137 => ?_)
  have E137_0 := E136_0.wr W137
  have E137_1 := E136_1.wr W137
  have F137_2 := F136_2.other W137 (Or.inr (slot_ne (Or.inl (hw _ (List.mem_of_getElem? (i := 17) rfl))) (Or.inr (hw _ (List.mem_of_getElem? (i := 80) rfl))) (by decide) (t := (.array (.object "java/lang/String"))) (t' := (.object "com/example/narrow_view/narrowview/TagDefaults$Target")) (by decide) (by decide)))
  have F137_3 := F136_3.other W137 (Or.inr (slot_ne (Or.inl (hw _ (List.mem_of_getElem? (i := 19) rfl))) (Or.inr (hw _ (List.mem_of_getElem? (i := 80) rfl))) (by decide) (t := (.array (.object "java/lang/String"))) (t' := (.object "com/example/narrow_view/narrowview/TagDefaults$Target")) (by decide) (by decide)))
  have F137_4 := F136_4.other W137 (Or.inr (slot_ne (Or.inl (hw _ (List.mem_of_getElem? (i := 21) rfl))) (Or.inr (hw _ (List.mem_of_getElem? (i := 80) rfl))) (by decide) (t := (.array (.object "java/lang/String"))) (t' := (.object "com/example/narrow_view/narrowview/TagDefaults$Target")) (by decide) (by decide)))
  have F137_5 := F136_5.other W137 (Or.inr (slot_ne (Or.inl (hw _ (List.mem_of_getElem? (i := 24) rfl))) (Or.inr (hw _ (List.mem_of_getElem? (i := 80) rfl))) (by decide) (t := (.array .int)) (t' := (.object "com/example/narrow_view/narrowview/TagDefaults$Target")) (by decide) (by decide)))
  have F137_6 := F136_6.other W137 (Or.inr (slot_ne (Or.inl (hw _ (List.mem_of_getElem? (i := 26) rfl))) (Or.inr (hw _ (List.mem_of_getElem? (i := 80) rfl))) (by decide) (t := (.array .int)) (t' := (.object "com/example/narrow_view/narrowview/TagDefaults$Target")) (by decide) (by decide)))
  have F137_7 := F136_7.other W137 (Or.inr (slot_ne (Or.inl (hw _ (List.mem_of_getElem? (i := 33) rfl))) (Or.inr (hw _ (List.mem_of_getElem? (i := 80) rfl))) (by decide) (t := (.array .boolean)) (t' := (.object "com/example/narrow_view/narrowview/TagDefaults$Target")) (by decide) (by decide)))
  have F137_8 := F136_8.other W137 (Or.inr (slot_ne (Or.inl (hw _ (List.mem_of_getElem? (i := 35) rfl))) (Or.inr (hw _ (List.mem_of_getElem? (i := 80) rfl))) (by decide) (t := (.array (.object "java/lang/String"))) (t' := (.object "com/example/narrow_view/narrowview/TagDefaults$Target")) (by decide) (by decide)))
  have F137_9 := F136_9.other W137 (Or.inr (slot_ne (Or.inl (hw _ (List.mem_of_getElem? (i := 37) rfl))) (Or.inr (hw _ (List.mem_of_getElem? (i := 80) rfl))) (by decide) (t := (.array (.object "java/lang/String"))) (t' := (.object "com/example/narrow_view/narrowview/TagDefaults$Target")) (by decide) (by decide)))
  have F137_10 := F136_10.other W137 (Or.inr (slot_ne (Or.inl (hw _ (List.mem_of_getElem? (i := 39) rfl))) (Or.inr (hw _ (List.mem_of_getElem? (i := 80) rfl))) (by decide) (t := (.array (.object "java/lang/String"))) (t' := (.object "com/example/narrow_view/narrowview/TagDefaults$Target")) (by decide) (by decide)))
  have F137_11 := F136_11.other W137 (Or.inr (slot_ne (Or.inl (hw _ (List.mem_of_getElem? (i := 41) rfl))) (Or.inr (hw _ (List.mem_of_getElem? (i := 80) rfl))) (by decide) (t := (.array (.object "java/lang/String"))) (t' := (.object "com/example/narrow_view/narrowview/TagDefaults$Target")) (by decide) (by decide)))
  have F137_12 := F136_12.other W137 (Or.inr (slot_ne (Or.inl (hw _ (List.mem_of_getElem? (i := 43) rfl))) (Or.inr (hw _ (List.mem_of_getElem? (i := 80) rfl))) (by decide) (t := (.array (.object "java/lang/String"))) (t' := (.object "com/example/narrow_view/narrowview/TagDefaults$Target")) (by decide) (by decide)))
  have F137_13 := F136_13.other W137 (Or.inr (slot_ne (Or.inl (hw _ (List.mem_of_getElem? (i := 48) rfl))) (Or.inr (hw _ (List.mem_of_getElem? (i := 80) rfl))) (by decide) (t := (.array .char)) (t' := (.object "com/example/narrow_view/narrowview/TagDefaults$Target")) (by decide) (by decide)))
  have F137_14 := F136_14.other W137 (Or.inr (slot_ne (Or.inl (hw _ (List.mem_of_getElem? (i := 50) rfl))) (Or.inr (hw _ (List.mem_of_getElem? (i := 80) rfl))) (by decide) (t := .int) (t' := (.object "com/example/narrow_view/narrowview/TagDefaults$Target")) (by decide) (by decide)))
  have F137_15 := Fc136_0.other W137 (Or.inl (Ne.symm (Nat.ne_of_lt lq135_o0)))
  have F137_16 := (U136 "com/example/narrow_view/narrowview/StartTags" "supplier" "Lcom/example/narrow_view/narrowview/TagDefaults$Target;" (.object "com/example/narrow_view/narrowview/TagDefaults$Target") (Or.inr (hw _ (List.mem_of_getElem? (i := 80) rfl))) (by decide) (by decide)).same W137
  have A137_a95 := A136_a95.other W137 (Ne.symm (Nat.ne_of_lt lq95_o0))
  have A137_a97 := A136_a97.other W137 (Ne.symm (Nat.ne_of_lt lq97_o0))
  have A137_a99 := A136_a99.other W137 (Ne.symm (Nat.ne_of_lt lq99_o0))
  have A137_a101 := A136_a101.other W137 (Ne.symm (Nat.ne_of_lt lq101_o0))
  have A137_a103 := A136_a103.other W137 (Ne.symm (Nat.ne_of_lt lq103_o0))
  have A137_a107 := A136_a107.other W137 (Ne.symm (Nat.ne_of_lt lq107_o0))
  have A137_a109 := A136_a109.other W137 (Ne.symm (Nat.ne_of_lt lq109_o0))
  have A137_a111 := A136_a111.other W137 (Ne.symm (Nat.ne_of_lt lq111_o0))
  have A137_a113 := A136_a113.other W137 (Ne.symm (Nat.ne_of_lt lq113_o0))
  have A137_a115 := A136_a115.other W137 (Ne.symm (Nat.ne_of_lt lq115_o0))
  have A137_a117 := A136_a117.other W137 (Ne.symm (Nat.ne_of_lt lq117_o0))
  have A137_a121 := A136_a121.other W137 (Ne.symm (Nat.ne_of_lt lq121_o0))
  have K137 : Keep h0 h137 [o0] := Kc136.wr W137 (Or.inl (List.mem_singleton.mpr rfl))
  have N137 := Fr.snoc X137 Nn136 g0
  have Z137 : n0 ≤ h137.size := by rw [W137.size]; exact Z136
  have U137 := OwU.put (ty := (.object "com/example/narrow_view/narrowview/TagDefaults$Target")) U136 W137 (Or.inr (hw _ (List.mem_of_getElem? (i := 80) rfl))) (by decide)
  refine ow_retV C X137 d2_189 (Nat.le_of_ble_eq_true rfl) (Nat.le_of_ble_eq_true rfl) ?_
  rw [e137]
  have PW : ([a95, a97, a99, a101, a103, a107, a109, a111, a113, a115, a117, a121] : List Nat).Pairwise (· < ·) := (own_pc lq97_a95 (own_pc lq99_a97 (own_pc lq101_a99 (own_pc lq103_a101 (own_pc lq107_a103 (own_pc lq109_a107 (own_pc lq111_a109 (own_pc lq113_a111 (own_pc lq115_a113 (own_pc lq117_a115 (own_pc lq121_a117 (List.pairwise_singleton _ _))))))))))))
  have MM : ∀ x ∈ ([a95, a97, a99, a101, a103, a107, a109, a111, a113, a115, a117, a121] : List Nat), h0.size ≤ x ∧ x < h137.size := (List.forall_mem_cons.mpr ⟨⟨Gh95, A137_a95.lt⟩, (List.forall_mem_cons.mpr ⟨⟨Gh97, A137_a97.lt⟩, (List.forall_mem_cons.mpr ⟨⟨Gh99, A137_a99.lt⟩, (List.forall_mem_cons.mpr ⟨⟨Gh101, A137_a101.lt⟩, (List.forall_mem_cons.mpr ⟨⟨Gh103, A137_a103.lt⟩, (List.forall_mem_cons.mpr ⟨⟨Gh107, A137_a107.lt⟩, (List.forall_mem_cons.mpr ⟨⟨Gh109, A137_a109.lt⟩, (List.forall_mem_cons.mpr ⟨⟨Gh111, A137_a111.lt⟩, (List.forall_mem_cons.mpr ⟨⟨Gh113, A137_a113.lt⟩, (List.forall_mem_cons.mpr ⟨⟨Gh115, A137_a115.lt⟩, (List.forall_mem_cons.mpr ⟨⟨Gh117, A137_a117.lt⟩, (List.forall_mem_cons.mpr ⟨⟨Gh121, A137_a121.lt⟩, (fun _ hx => nomatch hx)⟩)⟩)⟩)⟩)⟩)⟩)⟩)⟩)⟩)⟩)⟩)⟩)
  refine ⟨rfl, N137, K137, fun j => ([a95, a97, a99, a101, a103, a107, a109, a111, a113, a115, a117, a121] : List Nat).getD j 0, ⟨E137_0, (U137 "com/example/narrow_view/narrowview/StartTags" "count" "I" .int (Or.inl (hw _ (List.mem_of_getElem? (i := 90) rfl))) (by decide) (by decide)), (U137 "com/example/narrow_view/narrowview/StartTags" "declarations" "I" .int (Or.inl (hw _ (List.mem_of_getElem? (i := 106) rfl))) (by decide) (by decide)), (U137 "com/example/narrow_view/narrowview/StartTags" "attributes" "I" .int (Or.inl (hw _ (List.mem_of_getElem? (i := 117) rfl))) (by decide) (by decide)), (U137 "com/example/narrow_view/narrowview/StartTags" "valueCount" "I" .int (Or.inl (hw _ (List.mem_of_getElem? (i := 123) rfl))) (by decide) (by decide)), F137_14, F137_2, F137_3, F137_4, F137_5, F137_6, F137_7, F137_8, F137_9, F137_10, F137_11, F137_12, F137_13, A137_a95, A137_a97, A137_a99, A137_a101, A137_a103, A137_a107, A137_a109, A137_a111, A137_a113, A137_a115, A137_a117, A137_a121⟩, fun i j hi hj ne => own_pinj PW hi hj ne, fun j hj => own_pall MM hj⟩
theorem d1_0 : decode method_3_code 0 = .ok (.iload_n 0, 1) := by decide +kernel
theorem d1_1 : decode method_3_code 1 = .ok (.iconst 1, 1) := by decide +kernel
theorem d1_2 : decode method_3_code 2 = .ok (.iand, 1) := by decide +kernel
theorem d1_3 : decode method_3_code 3 = .ok (.ifCond .ne 11, 3) := by decide +kernel
theorem d1_6 : decode method_3_code 6 = .ok (.iload_n 0, 1) := by decide +kernel
theorem d1_7 : decode method_3_code 7 = .ok (.iconst 1, 1) := by decide +kernel
theorem d1_8 : decode method_3_code 8 = .ok (.iushr, 1) := by decide +kernel
theorem d1_9 : decode method_3_code 9 = .ok (.iconst 3, 1) := by decide +kernel
theorem d1_10 : decode method_3_code 10 = .ok (.iand, 1) := by decide +kernel
theorem d1_11 : decode method_3_code 11 = .ok (.goto 7, 3) := by decide +kernel
theorem d1_14 : decode method_3_code 14 = .ok (.iload_n 0, 1) := by decide +kernel
theorem d1_15 : decode method_3_code 15 = .ok (.ldc 13, 2) := by decide +kernel
theorem d1_17 : decode method_3_code 17 = .ok (.iand, 1) := by decide +kernel
theorem d1_18 : decode method_3_code 18 = .ok (.ireturn, 1) := by decide +kernel
theorem pn_1 : plainFor (⟨"com/example/narrow_view/narrowview/StartTagsTruncatePinLaw", "sizeOf", "(I)I"⟩ : MethodName) = true := by first | exact plainFor_of_name (by first | (simp [plainName, overriddenIn]; done) | decide +kernel) | decide +kernel
def own_szo (q0 : Int32) : Int32 := if (q0 &&& (1 : Int32)) = 0 then ((XT.ushr q0 (1 : Int32)) &&& (3 : Int32)) else (q0 &&& (2147483647 : Int32))
set_option maxRecDepth 65536 in
set_option maxHeartbeats 40000000 in
theorem rm_szo (l : Launch) (Z : State) (a0 : Array Value) (hw : ∀ d ∈ tables_1, d.before a0 Z = true) (q0 : Int32)  (h0 : Heap)   :
    OwCon l (⟨"com/example/narrow_view/narrowview/StartTagsTruncatePinLaw", "sizeOf", "(I)I"⟩ : MethodName) method_3_code 1 (some .int) ({ frames := 0, cells := 0, slots := 0, locals := 0 } : Room) Z #[(.int q0)] h0 (OwP (some (.int (own_szo q0))) h0) := by
  refine OwCon.of pn_1 (Ls := #[.val (.int q0)]) (fun m => by first | (simp [entryFrame, mkF, argsToLocals, Value.category]; done) | rfl) ?_
  intro p e s m below meth c s₁ C X0 e0
  refine ow_iloadN C X0 d1_0 rfl (pc' := 1) rfl ?_
  refine ow_iconst (1 : Int32) C X0 d1_1 (by decide) (pc' := 2) rfl ?_
  refine ow_iand C X0 d1_2 (pc' := 3) rfl ?_
  refine ow_if_ne C X0 d1_3 (pcT := 14) (pc' := 6) (by decide) (by decide) rfl (fun b3 => ?_) (fun b3 => ?_)
  · refine ow_iloadN C X0 d1_14 rfl (pc' := 15) rfl ?_
    refine ow_ldc C X0 (hw _ (List.mem_of_getElem? (i := 4) rfl)) d1_15 (pc' := 17) rfl ?_
    refine ow_iand C X0 d1_17 (pc' := 18) rfl ?_
    exact ow_retI C X0 d1_18 (Nat.le_of_ble_eq_true rfl) (Nat.le_of_ble_eq_true rfl) ⟨(show some (Value.int (q0 &&& (2147483647 : Int32))) = some (Value.int (own_szo q0)) from congrArg (fun z => some (Value.int z)) (by unfold own_szo; rw [if_neg b3])), rfl, e0⟩
  · refine ow_iloadN C X0 d1_6 rfl (pc' := 7) rfl ?_
    refine ow_iconst (1 : Int32) C X0 d1_7 (by decide) (pc' := 8) rfl ?_
    refine ow_iushr C X0 d1_8 (pc' := 9) rfl ?_
    refine ow_iconst (3 : Int32) C X0 d1_9 (by decide) (pc' := 10) rfl ?_
    refine ow_iand C X0 d1_10 (pc' := 11) rfl ?_
    refine ow_goto C X0 d1_11 (pcT := 18) (by decide) (by decide) ?_
    exact ow_retI C X0 d1_18 (Nat.le_of_ble_eq_true rfl) (Nat.le_of_ble_eq_true rfl) ⟨(show some (Value.int ((XT.ushr q0 (1 : Int32)) &&& (3 : Int32))) = some (Value.int (own_szo q0)) from congrArg (fun z => some (Value.int z)) (by unfold own_szo; rw [if_pos b3])), rfl, e0⟩
theorem d9_0 : decode jdk_29_method_69_code 0 = .ok (.iload_n 0, 1) := by decide +kernel
theorem d9_1 : decode jdk_29_method_69_code 1 = .ok (.iload_n 1, 1) := by decide +kernel
theorem d9_2 : decode jdk_29_method_69_code 2 = .ok (.if_icmp .gt 7, 3) := by decide +kernel
theorem d9_5 : decode jdk_29_method_69_code 5 = .ok (.iload_n 0, 1) := by decide +kernel
theorem d9_6 : decode jdk_29_method_69_code 6 = .ok (.goto 4, 3) := by decide +kernel
theorem d9_9 : decode jdk_29_method_69_code 9 = .ok (.iload_n 1, 1) := by decide +kernel
theorem d9_10 : decode jdk_29_method_69_code 10 = .ok (.ireturn, 1) := by decide +kernel
theorem pn_9 : plainFor (⟨"java/lang/Math", "min", "(II)I"⟩ : MethodName) = true := by first | exact plainFor_of_name (by first | (simp [plainName, overriddenIn]; done) | decide +kernel) | decide +kernel
theorem pd_8 : parseMethodDescriptor "(II)I" = some ⟨[.int, .int], (some .int)⟩ := by decide +kernel
def own_min (q0 : Int32) (q1 : Int32) : Int32 := if q1 < q0 then q1 else q0
set_option maxRecDepth 65536 in
set_option maxHeartbeats 40000000 in
theorem rm_min (l : Launch) (Z : State) (a0 : Array Value) (hw : ∀ d ∈ tables_1, d.before a0 Z = true) (q0 : Int32) (q1 : Int32)  (h0 : Heap)   :
    OwCon l (⟨"java/lang/Math", "min", "(II)I"⟩ : MethodName) jdk_29_method_69_code 2 (some .int) ({ frames := 0, cells := 0, slots := 0, locals := 0 } : Room) Z #[(.int q0), (.int q1)] h0 (OwP (some (.int (own_min q0 q1))) h0) := by
  refine OwCon.of pn_9 (Ls := #[.val (.int q0), .val (.int q1)]) (fun m => by first | (simp [entryFrame, mkF, argsToLocals, Value.category]; done) | rfl) ?_
  intro p e s m below meth c s₁ C X0 e0
  refine ow_iloadN C X0 d9_0 rfl (pc' := 1) rfl ?_
  refine ow_iloadN C X0 d9_1 rfl (pc' := 2) rfl ?_
  refine ow_icmp_gt C X0 d9_2 (pcT := 9) (pc' := 5) (by decide) (by decide) rfl (fun b2 => ?_) (fun b2 => ?_)
  · refine ow_iloadN C X0 d9_9 rfl (pc' := 10) rfl ?_
    exact ow_retI C X0 d9_10 (Nat.le_of_ble_eq_true rfl) (Nat.le_of_ble_eq_true rfl) ⟨(show some (Value.int q1) = some (Value.int (own_min q0 q1)) from congrArg (fun z => some (Value.int z)) (by unfold own_min; rw [if_pos b2])), rfl, e0⟩
  · refine ow_iloadN C X0 d9_5 rfl (pc' := 6) rfl ?_
    refine ow_goto C X0 d9_6 (pcT := 10) (by decide) (by decide) ?_
    exact ow_retI C X0 d9_10 (Nat.le_of_ble_eq_true rfl) (Nat.le_of_ble_eq_true rfl) ⟨(show some (Value.int q0) = some (Value.int (own_min q0 q1)) from congrArg (fun z => some (Value.int z)) (by unfold own_min; rw [if_neg b2])), rfl, e0⟩
theorem d8_0 : decode prog_63_method_4_code 0 = .ok (.aload_n 0, 1) := by decide +kernel
theorem d8_1 : decode prog_63_method_4_code 1 = .ok (.getfield 92, 3) := by decide +kernel
theorem d8_4 : decode prog_63_method_4_code 4 = .ok (.ireturn, 1) := by decide +kernel
theorem pn_8 : plainFor (⟨"com/example/narrow_view/narrowview/StartTags", "size", "()I"⟩ : MethodName) = true := by first | exact plainFor_of_name (by first | (simp [plainName, overriddenIn]; done) | decide +kernel) | decide +kernel
theorem pd_9 : parseMethodDescriptor "()I" = some ⟨[], (some .int)⟩ := by decide +kernel
def own_size (u_count_o0 : Int32) : Int32 := u_count_o0
set_option maxRecDepth 65536 in
set_option maxHeartbeats 40000000 in
theorem rm_size (l : Launch) (Z : State) (a0 : Array Value) (hw : ∀ d ∈ tables_1, d.before a0 Z = true) (o0 : Addr) (u_count_o0 : Int32) (h0 : Heap)  (F_count_o0 : Fld Z h0 o0 "com/example/narrow_view/narrowview/StartTags" "count" "I" (.int u_count_o0)) :
    OwCon l (⟨"com/example/narrow_view/narrowview/StartTags", "size", "()I"⟩ : MethodName) prog_63_method_4_code 1 (some .int) ({ frames := 0, cells := 0, slots := 0, locals := 0 } : Room) Z #[(.ref o0)] h0 (OwP (some (.int (own_size u_count_o0))) h0) := by
  refine OwCon.of pn_8 (Ls := #[.val (.ref o0)]) (fun m => by first | (simp [entryFrame, mkF, argsToLocals, Value.category]; done) | rfl) ?_
  intro p e s m below meth c s₁ C X0 e0
  refine ow_aloadN C X0 d8_0 rfl rfl (pc' := 1) rfl ?_
  refine ow_getF C X0 e0 (hw _ (List.mem_of_getElem? (i := 89) rfl)) F_count_o0 d8_1 (pc' := 4) rfl (fun T138 X138 e138 => ?_)
  exact ow_retI C X138 d8_4 (Nat.le_of_ble_eq_true rfl) (Nat.le_of_ble_eq_true rfl) ⟨(show some (Value.int u_count_o0) = some (Value.int (own_size u_count_o0)) from congrArg (fun z => some (Value.int z)) rfl), rfl, e138⟩
theorem own_fill_b (n : Int32) : OwSm (own_fill n) := by
  unfold own_fill OwSm
  repeat' split
  all_goals decide
theorem own_tr_b {z k : Int32} (hz : 0 ≤ z.toInt) (hk : OwSm k) : OwSm (own_tr z k) := by
  unfold own_tr
  split
  · rename_i h
    rw [Int32.lt_iff_toInt_lt] at h
    exact ⟨hz, Int.lt_trans h hk.2⟩
  · exact hk
theorem own_and_b (x y : Int32) (h : y.toBitVec.msb = false) : 0 ≤ (x &&& y).toInt := by
  show 0 ≤ (x &&& y).toBitVec.toInt
  rw [Int32.toBitVec_and]
  rw [BitVec.toInt_eq_msb_cond, BitVec.msb_and, h, Bool.and_false, if_neg (by decide)]
  exact Int.natCast_nonneg _
theorem own_szo_b (x : Int32) : 0 ≤ (own_szo x).toInt := by
  unfold own_szo
  first
  | (split <;> exact own_and_b _ _ (by decide))
  | (unfold own_szo_j18; split <;> exact own_and_b _ _ (by decide))

theorem pn_0 : plainFor (⟨"com/example/narrow_view/narrowview/StartTagsTruncatePinLaw", "law", "(III)Z"⟩ : MethodName) = true := by first | exact plainFor_of_name (by first | (simp [plainName, overriddenIn]; done) | decide +kernel) | decide +kernel
theorem pd_10 : parseMethodDescriptor "(III)Z" = some ⟨[.int, .int, .int], (some .boolean)⟩ := by decide +kernel
def own_law_j72 (q0 : Int32) (q1 : Int32) (q2 : Int32) : Int32 := if (own_size (own_tr (own_szo q1) (own_fill (q0 &&& (3 : Int32))))) = (own_min (q0 &&& (3 : Int32)) (own_szo q1)) then (1 : Int32) else (0 : Int32)
theorem own_law_j72_01 (q0 : Int32) (q1 : Int32) (q2 : Int32) : own_law_j72 q0 q1 q2 = 0 ∨ own_law_j72 q0 q1 q2 = 1 := by
  unfold own_law_j72
  repeat' split
  all_goals first | exact Or.inl rfl | exact Or.inr rfl
def own_law_j110 (q0 : Int32) (q1 : Int32) (q2 : Int32) : Int32 := if (own_law_j72 q0 q1 q2) = 0 then (0 : Int32) else if (own_size (own_tr (own_szo q2) (own_tr (own_szo q1) (own_fill (q0 &&& (3 : Int32)))))) = (own_min (own_size (own_tr (own_szo q1) (own_fill (q0 &&& (3 : Int32))))) (own_szo q2)) then (1 : Int32) else (0 : Int32)
theorem own_law_j110_01 (q0 : Int32) (q1 : Int32) (q2 : Int32) : own_law_j110 q0 q1 q2 = 0 ∨ own_law_j110 q0 q1 q2 = 1 := by
  unfold own_law_j110
  repeat' split
  all_goals first | exact Or.inl rfl | exact Or.inr rfl
def own_law_j151 (q0 : Int32) (q1 : Int32) (q2 : Int32) : Int32 := if (own_law_j110 q0 q1 q2) = 0 then (0 : Int32) else if (own_tr (own_szo q2) (own_tr (own_szo q1) (own_fill (q0 &&& (3 : Int32))))) = (own_size (own_tr (own_szo q2) (own_tr (own_szo q1) (own_fill (q0 &&& (3 : Int32)))))) then (if (own_size ((own_tr (own_szo q2) (own_tr (own_szo q1) (own_fill (q0 &&& (3 : Int32))))) + (1 : Int32))) = ((own_size (own_tr (own_szo q2) (own_tr (own_szo q1) (own_fill (q0 &&& (3 : Int32)))))) + (1 : Int32)) then (1 : Int32) else (0 : Int32)) else (0 : Int32)
theorem own_law_j151_01 (q0 : Int32) (q1 : Int32) (q2 : Int32) : own_law_j151 q0 q1 q2 = 0 ∨ own_law_j151 q0 q1 q2 = 1 := by
  unfold own_law_j151
  repeat' split
  all_goals first | exact Or.inl rfl | exact Or.inr rfl
def own_law (q0 : Int32) (q1 : Int32) (q2 : Int32) : Int32 := (own_law_j151 q0 q1 q2)
set_option maxRecDepth 65536 in
set_option maxHeartbeats 40000000 in
theorem rm_law (l : Launch) (Z : State) (a0 : Array Value) (hw : ∀ d ∈ tables_1, d.before a0 Z = true) (q0 : Int32) (q1 : Int32) (q2 : Int32) (h0 : Heap) (n0 : Nat) (Z0 : n0 ≤ h0.size)  :
    OwCon l (⟨"com/example/narrow_view/narrowview/StartTagsTruncatePinLaw", "law", "(III)Z"⟩ : MethodName) code maxLocals ret room_1 Z #[(.int q0), (.int q1), (.int q2)] h0 (fun v h L => v = some (.int (own_law q0 q1 q2)) ∧ Fr n0 L) := by
  refine OwCon.of pn_0 (Ls := #[.val (.int q0), .val (.int q1), .val (.int q2), .unset, .unset, .unset, .unset, .unset, .unset, .unset, .unset, .unset]) (fun m => by first | (simp [entryFrame, mkF, argsToLocals, Value.category, maxLocals]; done) | rfl) ?_
  intro p e s m below meth c s₁ C X0 e0
  refine ow_iloadN C X0 at_0 rfl (pc' := 1) rfl ?_
  refine ow_iconst (3 : Int32) C X0 at_1 (by decide) (pc' := 2) rfl ?_
  refine ow_iand C X0 at_2 (pc' := 3) rfl ?_
  refine ow_istoreN C X0 at_3 (Ls' := #[.val (.int q0), .val (.int q1), .val (.int q2), .val (.int (q0 &&& (3 : Int32))), .unset, .unset, .unset, .unset, .unset, .unset, .unset, .unset]) rfl (pc' := 4) rfl ?_
  refine ow_iloadN C X0 at_4 rfl (pc' := 5) rfl ?_
  refine ow_callSP C X0 e0 (hw _ (List.mem_of_getElem? (i := 0) rfl)) (hw _ (List.mem_of_getElem? (i := 1) rfl)) (hw _ (List.mem_of_getElem? (i := 2) rfl)) (hw _ (List.mem_of_getElem? (i := 3) rfl)) (by decide) (rm_szo l Z a0 hw q1 h0) ⟨rfl, rfl⟩ pd_0 rfl (argsL := [(.int q1)]) (rest := []) rfl rfl at_5 (Nat.le_of_ble_eq_true rfl) (Nat.le_of_ble_eq_true rfl) (Nat.le_of_ble_eq_true rfl) (Nat.le_of_ble_eq_true rfl) (pc' := 8) rfl (fun T139 X139 e139 => ?_)
  refine ow_istore C X139 at_8 (Ls' := #[.val (.int q0), .val (.int q1), .val (.int q2), .val (.int (q0 &&& (3 : Int32))), .val (.int (own_szo q1)), .unset, .unset, .unset, .unset, .unset, .unset, .unset]) rfl (pc' := 10) rfl ?_
  refine ow_iloadN C X139 at_10 rfl (pc' := 11) rfl ?_
  refine ow_callSP C X139 e139 (hw _ (List.mem_of_getElem? (i := 0) rfl)) (hw _ (List.mem_of_getElem? (i := 1) rfl)) (hw _ (List.mem_of_getElem? (i := 2) rfl)) (hw _ (List.mem_of_getElem? (i := 3) rfl)) (by decide) (rm_szo l Z a0 hw q2 h0) ⟨rfl, rfl⟩ pd_0 rfl (argsL := [(.int q2)]) (rest := []) rfl rfl at_11 (Nat.le_of_ble_eq_true rfl) (Nat.le_of_ble_eq_true rfl) (Nat.le_of_ble_eq_true rfl) (Nat.le_of_ble_eq_true rfl) (pc' := 14) rfl (fun T140 X140 e140 => ?_)
  refine ow_istore C X140 at_14 (Ls' := #[.val (.int q0), .val (.int q1), .val (.int q2), .val (.int (q0 &&& (3 : Int32))), .val (.int (own_szo q1)), .val (.int (own_szo q2)), .unset, .unset, .unset, .unset, .unset, .unset]) rfl (pc' := 16) rfl ?_
  refine ow_new C X140 e140 (hw _ (List.mem_of_getElem? (i := 5) rfl)) (hw _ (List.mem_of_getElem? (i := 6) rfl)) (hw _ (List.mem_of_getElem? (i := 7) rfl)) at_16 (Nat.le_of_ble_eq_true rfl) (Nat.le_of_ble_eq_true rfl) (pc' := 19) rfl (fun T141 h141 o g141 X141 e141 Ex141 E141 D141 => ?_)
  have U141 : OwU Z a0 h141 o "com/example/narrow_view/narrowview/StartTags" [] := fun _ _ _ _ L p _ => D141 L p
  have Ge141 : n0 ≤ o := Nat.le_trans Z0 (Nat.le_of_eq g141.symm)
  have Z141 : n0 ≤ h141.size := Nat.le_trans Z0 Ex141.1
  refine ow_dup C X141 at_19 rfl (pc' := 20) rfl ?_
  refine ow_callN C X141 e141 rfl (hw _ (List.mem_of_getElem? (i := 8) rfl)) (hw _ (List.mem_of_getElem? (i := 9) rfl)) (hw _ (List.mem_of_getElem? (i := 7) rfl)) (hw _ (List.mem_of_getElem? (i := 10) rfl)) (by decide) (rm_sti l Z a0 hw o h141 n0 Z141 E141 U141 Ge141) pd_6 rfl (argsL := []) (rest := [(.ref o)]) rfl rfl at_20 (Nat.le_of_ble_eq_true rfl) (Nat.le_of_ble_eq_true rfl) (Nat.le_of_ble_eq_true rfl) (Nat.le_of_ble_eq_true rfl) (pc' := 23) rfl (fun T142 v142 L142 X142 Q142 => ?_)
  obtain ⟨rfl, N142, K142, ad, S142_n, Ic, Ac⟩ := Q142
  have Nn142 := Fr.app (Fr.nil n0) N142
  have Gn : h141.size ≤ h141.size := Nat.le_refl _
  have An : ∀ j, j < 12 → n0 ≤ ad j := fun j hj => Nat.le_trans Z141 (Ac j hj).1
  have Z142 : n0 ≤ T142.heap.size := Nat.le_trans Z141 K142.1
  show OwF p e below _ T142 (mkF m 23 #[.val (.int q0), .val (.int q1), .val (.int q2), .val (.int (q0 &&& (3 : Int32))), .val (.int (own_szo q1)), .val (.int (own_szo q2)), .unset, .unset, .unset, .unset, .unset, .unset] [(.ref o)])
  refine ow_astore C X142 at_23 rfl (Ls' := #[.val (.int q0), .val (.int q1), .val (.int q2), .val (.int (q0 &&& (3 : Int32))), .val (.int (own_szo q1)), .val (.int (own_szo q2)), .val (.ref o), .unset, .unset, .unset, .unset, .unset]) rfl (pc' := 25) rfl ?_
  refine ow_new C X142 rfl (hw _ (List.mem_of_getElem? (i := 5) rfl)) (hw _ (List.mem_of_getElem? (i := 6) rfl)) (hw _ (List.mem_of_getElem? (i := 7) rfl)) at_25 (Nat.le_of_ble_eq_true rfl) (Nat.le_of_ble_eq_true rfl) (pc' := 28) rfl (fun T143 h143 q g143 X143 e143 Ex143 E143 D143 => ?_)
  have U143 : OwU Z a0 h143 q "com/example/narrow_view/narrowview/StartTags" [] := fun _ _ _ _ L p _ => D143 L p
  have Ge143 : n0 ≤ q := Nat.le_trans Z142 (Nat.le_of_eq g143.symm)
  have Z143 : n0 ≤ h143.size := Nat.le_trans Z142 Ex143.1
  have S143_o := S142_n.ext Ex143
  have Lo143 : o < q := Nat.lt_of_lt_of_le S142_n.E.lt (Nat.le_of_eq g143.symm)
  have La143 : ∀ j, j < 12 → ad j < q := fun j hj => Nat.lt_of_lt_of_le (Ac j hj).2 (Nat.le_of_eq g143.symm)
  refine ow_dup C X143 at_28 rfl (pc' := 29) rfl ?_
  refine ow_callN C X143 e143 rfl (hw _ (List.mem_of_getElem? (i := 8) rfl)) (hw _ (List.mem_of_getElem? (i := 9) rfl)) (hw _ (List.mem_of_getElem? (i := 7) rfl)) (hw _ (List.mem_of_getElem? (i := 10) rfl)) (by decide) (rm_sti l Z a0 hw q h143 n0 Z143 E143 U143 Ge143) pd_6 rfl (argsL := []) (rest := [(.ref q)]) rfl rfl at_29 (Nat.le_of_ble_eq_true rfl) (Nat.le_of_ble_eq_true rfl) (Nat.le_of_ble_eq_true rfl) (Nat.le_of_ble_eq_true rfl) (pc' := 32) rfl (fun T144 v144 L144 X144 Q144 => ?_)
  obtain ⟨rfl, N144, K144, bd, S144_n, Jc, Bc⟩ := Q144
  have Nn144 := Fr.app Nn142 N144
  have S144_o := S143_o.keep K144 (own_nm (Nat.ne_of_lt Lo143)) (fun j hj => own_nm (Nat.ne_of_lt (La143 j hj)))
  have G : OwG n0 q o q ad bd := ⟨Ge141, Lo143, Nat.le_refl _, fun j hj => ⟨An j hj, La143 j hj, Nat.le_trans (Nat.le_of_lt E143.lt) (Bc j hj).1⟩, Ic⟩
  have Z144 : n0 ≤ T144.heap.size := Nat.le_trans Z143 K144.1
  show OwF p e below _ T144 (mkF m 32 #[.val (.int q0), .val (.int q1), .val (.int q2), .val (.int (q0 &&& (3 : Int32))), .val (.int (own_szo q1)), .val (.int (own_szo q2)), .val (.ref o), .unset, .unset, .unset, .unset, .unset] [(.ref q)])
  refine ow_astore C X144 at_32 rfl (Ls' := #[.val (.int q0), .val (.int q1), .val (.int q2), .val (.int (q0 &&& (3 : Int32))), .val (.int (own_szo q1)), .val (.int (own_szo q2)), .val (.ref o), .val (.ref q), .unset, .unset, .unset, .unset]) rfl (pc' := 34) rfl ?_
  refine ow_aload C X144 at_34 rfl rfl (pc' := 36) rfl ?_
  refine ow_aload C X144 at_36 rfl rfl (pc' := 38) rfl ?_
  refine ow_iloadN C X144 at_38 rfl (pc' := 39) rfl ?_
  refine ow_callS C X144 rfl (hw _ (List.mem_of_getElem? (i := 81) rfl)) (hw _ (List.mem_of_getElem? (i := 82) rfl)) (hw _ (List.mem_of_getElem? (i := 2) rfl)) (hw _ (List.mem_of_getElem? (i := 83) rfl)) (by decide) (rm_fill l Z a0 hw o q (q0 &&& (3 : Int32)) ad bd T144.heap n0 q S144_o S144_n G) pd_4 rfl (argsL := [(.ref o), (.ref q), (.int (q0 &&& (3 : Int32)))]) (rest := []) rfl rfl at_39 (Nat.le_of_ble_eq_true rfl) (Nat.le_of_ble_eq_true rfl) (Nat.le_of_ble_eq_true rfl) (Nat.le_of_ble_eq_true rfl) (pc' := 42) rfl (fun T145 v145 L145 X145 Q145 => ?_)
  obtain ⟨rfl, N145, S145_o, S145_q⟩ := Q145
  have Nn145 := Fr.app Nn144 N145
  show OwF p e below _ T145 (mkF m 42 #[.val (.int q0), .val (.int q1), .val (.int q2), .val (.int (q0 &&& (3 : Int32))), .val (.int (own_szo q1)), .val (.int (own_szo q2)), .val (.ref o), .val (.ref q), .unset, .unset, .unset, .unset] [])
  refine ow_aload C X145 at_42 rfl rfl (pc' := 44) rfl ?_
  refine ow_iload C X145 at_44 rfl (pc' := 46) rfl ?_
  refine ow_callV C X145 rfl (hw _ (List.mem_of_getElem? (i := 84) rfl)) (hw _ (List.mem_of_getElem? (i := 85) rfl)) (hw _ (List.mem_of_getElem? (i := 87) rfl)) rfl (hw _ (List.mem_of_getElem? (i := 86) rfl)) (hw _ (List.mem_of_getElem? (i := 7) rfl)) (hw _ (List.mem_of_getElem? (i := 88) rfl)) (by decide) S145_o.E (rm_trunc l Z a0 hw o q (own_fill (q0 &&& (3 : Int32))) ad bd T145.heap n0 q S145_o S145_q G (own_szo q1) (own_szo_b q1) (own_fill_b (q0 &&& (3 : Int32)))) pd_5 rfl (argsL := [(.int (own_szo q1))]) (rest := []) rfl rfl at_46 (Nat.le_of_ble_eq_true rfl) (Nat.le_of_ble_eq_true rfl) (Nat.le_of_ble_eq_true rfl) (Nat.le_of_ble_eq_true rfl) (pc' := 49) rfl (fun T146 v146 L146 X146 Q146 => ?_)
  obtain ⟨rfl, N146, S146_o, S146_q⟩ := Q146
  have Nn146 := Fr.app Nn145 N146
  show OwF p e below _ T146 (mkF m 49 #[.val (.int q0), .val (.int q1), .val (.int q2), .val (.int (q0 &&& (3 : Int32))), .val (.int (own_szo q1)), .val (.int (own_szo q2)), .val (.ref o), .val (.ref q), .unset, .unset, .unset, .unset] [])
  refine ow_aload C X146 at_49 rfl rfl (pc' := 51) rfl ?_
  refine ow_callVP C X146 rfl (hw _ (List.mem_of_getElem? (i := 91) rfl)) (hw _ (List.mem_of_getElem? (i := 92) rfl)) (hw _ (List.mem_of_getElem? (i := 94) rfl)) rfl (hw _ (List.mem_of_getElem? (i := 93) rfl)) (hw _ (List.mem_of_getElem? (i := 7) rfl)) (hw _ (List.mem_of_getElem? (i := 95) rfl)) (by decide) S146_o.E (rm_size l Z a0 hw o (own_tr (own_szo q1) (own_fill (q0 &&& (3 : Int32)))) T146.heap S146_o.n0) ⟨rfl, rfl⟩ pd_9 rfl (argsL := []) (rest := []) rfl rfl at_51 (Nat.le_of_ble_eq_true rfl) (Nat.le_of_ble_eq_true rfl) (Nat.le_of_ble_eq_true rfl) (Nat.le_of_ble_eq_true rfl) (pc' := 54) rfl (fun T147 X147 e147 => ?_)
  refine ow_istore C X147 at_54 (Ls' := #[.val (.int q0), .val (.int q1), .val (.int q2), .val (.int (q0 &&& (3 : Int32))), .val (.int (own_szo q1)), .val (.int (own_szo q2)), .val (.ref o), .val (.ref q), .val (.int (own_size (own_tr (own_szo q1) (own_fill (q0 &&& (3 : Int32)))))), .unset, .unset, .unset]) rfl (pc' := 56) rfl ?_
  refine ow_iload C X147 at_56 rfl (pc' := 58) rfl ?_
  refine ow_iloadN C X147 at_58 rfl (pc' := 59) rfl ?_
  refine ow_iload C X147 at_59 rfl (pc' := 61) rfl ?_
  refine ow_callSP C X147 e147 (hw _ (List.mem_of_getElem? (i := 96) rfl)) (hw _ (List.mem_of_getElem? (i := 97) rfl)) (hw _ (List.mem_of_getElem? (i := 98) rfl)) (hw _ (List.mem_of_getElem? (i := 99) rfl)) (by decide) (rm_min l Z a0 hw (q0 &&& (3 : Int32)) (own_szo q1) T146.heap) ⟨rfl, rfl⟩ pd_8 rfl (argsL := [(.int (q0 &&& (3 : Int32))), (.int (own_szo q1))]) (rest := [(.int (own_size (own_tr (own_szo q1) (own_fill (q0 &&& (3 : Int32))))))]) rfl rfl at_61 (Nat.le_of_ble_eq_true rfl) (Nat.le_of_ble_eq_true rfl) (Nat.le_of_ble_eq_true rfl) (Nat.le_of_ble_eq_true rfl) (pc' := 64) rfl (fun T148 X148 e148 => ?_)
  refine ow_join X148 e148 (f' := (mkF m 72 #[.val (.int q0), .val (.int q1), .val (.int q2), .val (.int (q0 &&& (3 : Int32))), .val (.int (own_szo q1)), .val (.int (own_szo q2)), .val (.ref o), .val (.ref q), .val (.int (own_size (own_tr (own_szo q1) (own_fill (q0 &&& (3 : Int32)))))), .unset, .unset, .unset] [(.int (own_law_j72 q0 q1 q2))])) ?_ (fun T149 X149 e149 => ?_)
  · intro D149 jk149
    refine ow_icmp_ne C X148 at_64 (pcT := 71) (pc' := 67) (by decide) (by decide) rfl (fun b64 => ?_) (fun b64 => ?_)
    · refine ow_iconst (0 : Int32) C X148 at_71 (by decide) (pc' := 72) rfl ?_
      have jq := jk149 T148 X148 e148
      rw [show (own_law_j72 q0 q1 q2) = (0 : Int32) from by unfold own_law_j72; (try rw [if_neg b64]); (try rfl)] at jq
      exact jq
    · refine ow_iconst (1 : Int32) C X148 at_67 (by decide) (pc' := 68) rfl ?_
      refine ow_goto C X148 at_68 (pcT := 72) (by decide) (by decide) ?_
      have jq := jk149 T148 X148 e148
      rw [show (own_law_j72 q0 q1 q2) = (1 : Int32) from by unfold own_law_j72; (try rw [if_pos b64]); (try rfl)] at jq
      exact jq
  refine ow_istore C X149 at_72 (Ls' := #[.val (.int q0), .val (.int q1), .val (.int q2), .val (.int (q0 &&& (3 : Int32))), .val (.int (own_szo q1)), .val (.int (own_szo q2)), .val (.ref o), .val (.ref q), .val (.int (own_size (own_tr (own_szo q1) (own_fill (q0 &&& (3 : Int32)))))), .val (.int (own_law_j72 q0 q1 q2)), .unset, .unset]) rfl (pc' := 74) rfl ?_
  refine ow_aload C X149 at_74 rfl rfl (pc' := 76) rfl ?_
  refine ow_iload C X149 at_76 rfl (pc' := 78) rfl ?_
  refine ow_callV C X149 e149 (hw _ (List.mem_of_getElem? (i := 84) rfl)) (hw _ (List.mem_of_getElem? (i := 85) rfl)) (hw _ (List.mem_of_getElem? (i := 87) rfl)) rfl (hw _ (List.mem_of_getElem? (i := 86) rfl)) (hw _ (List.mem_of_getElem? (i := 7) rfl)) (hw _ (List.mem_of_getElem? (i := 88) rfl)) (by decide) S146_o.E (rm_trunc l Z a0 hw o q (own_tr (own_szo q1) (own_fill (q0 &&& (3 : Int32)))) ad bd T146.heap n0 q S146_o S146_q G (own_szo q2) (own_szo_b q2) (own_tr_b (own_szo_b q1) (own_fill_b (q0 &&& (3 : Int32))))) pd_5 rfl (argsL := [(.int (own_szo q2))]) (rest := []) rfl rfl at_78 (Nat.le_of_ble_eq_true rfl) (Nat.le_of_ble_eq_true rfl) (Nat.le_of_ble_eq_true rfl) (Nat.le_of_ble_eq_true rfl) (pc' := 81) rfl (fun T150 v150 L150 X150 Q150 => ?_)
  obtain ⟨rfl, N150, S150_o, S150_q⟩ := Q150
  have Nn150 := Fr.app Nn146 N150
  show OwF p e below _ T150 (mkF m 81 #[.val (.int q0), .val (.int q1), .val (.int q2), .val (.int (q0 &&& (3 : Int32))), .val (.int (own_szo q1)), .val (.int (own_szo q2)), .val (.ref o), .val (.ref q), .val (.int (own_size (own_tr (own_szo q1) (own_fill (q0 &&& (3 : Int32)))))), .val (.int (own_law_j72 q0 q1 q2)), .unset, .unset] [])
  refine ow_aload C X150 at_81 rfl rfl (pc' := 83) rfl ?_
  refine ow_callVP C X150 rfl (hw _ (List.mem_of_getElem? (i := 91) rfl)) (hw _ (List.mem_of_getElem? (i := 92) rfl)) (hw _ (List.mem_of_getElem? (i := 94) rfl)) rfl (hw _ (List.mem_of_getElem? (i := 93) rfl)) (hw _ (List.mem_of_getElem? (i := 7) rfl)) (hw _ (List.mem_of_getElem? (i := 95) rfl)) (by decide) S150_o.E (rm_size l Z a0 hw o (own_tr (own_szo q2) (own_tr (own_szo q1) (own_fill (q0 &&& (3 : Int32))))) T150.heap S150_o.n0) ⟨rfl, rfl⟩ pd_9 rfl (argsL := []) (rest := []) rfl rfl at_83 (Nat.le_of_ble_eq_true rfl) (Nat.le_of_ble_eq_true rfl) (Nat.le_of_ble_eq_true rfl) (Nat.le_of_ble_eq_true rfl) (pc' := 86) rfl (fun T151 X151 e151 => ?_)
  refine ow_istore C X151 at_86 (Ls' := #[.val (.int q0), .val (.int q1), .val (.int q2), .val (.int (q0 &&& (3 : Int32))), .val (.int (own_szo q1)), .val (.int (own_szo q2)), .val (.ref o), .val (.ref q), .val (.int (own_size (own_tr (own_szo q1) (own_fill (q0 &&& (3 : Int32)))))), .val (.int (own_law_j72 q0 q1 q2)), .val (.int (own_size (own_tr (own_szo q2) (own_tr (own_szo q1) (own_fill (q0 &&& (3 : Int32))))))), .unset]) rfl (pc' := 88) rfl ?_
  refine ow_iload C X151 at_88 rfl (pc' := 90) rfl ?_
  refine ow_join X151 e151 (f' := (mkF m 110 #[.val (.int q0), .val (.int q1), .val (.int q2), .val (.int (q0 &&& (3 : Int32))), .val (.int (own_szo q1)), .val (.int (own_szo q2)), .val (.ref o), .val (.ref q), .val (.int (own_size (own_tr (own_szo q1) (own_fill (q0 &&& (3 : Int32)))))), .val (.int (own_law_j72 q0 q1 q2)), .val (.int (own_size (own_tr (own_szo q2) (own_tr (own_szo q1) (own_fill (q0 &&& (3 : Int32))))))), .unset] [(.int (own_law_j110 q0 q1 q2))])) ?_ (fun T153 X153 e153 => ?_)
  · intro D153 jk153
    refine ow_if_eq C X151 at_90 (pcT := 109) (pc' := 93) (by decide) (by decide) rfl (fun b90 => ?_) (fun b90 => ?_)
    · refine ow_iconst (0 : Int32) C X151 at_109 (by decide) (pc' := 110) rfl ?_
      have jq := jk153 T151 X151 e151
      rw [show (own_law_j110 q0 q1 q2) = (0 : Int32) from by unfold own_law_j110; (try rw [if_pos b90]); (try rfl)] at jq
      exact jq
    · refine ow_iload C X151 at_93 rfl (pc' := 95) rfl ?_
      refine ow_iload C X151 at_95 rfl (pc' := 97) rfl ?_
      refine ow_iload C X151 at_97 rfl (pc' := 99) rfl ?_
      refine ow_callSP C X151 e151 (hw _ (List.mem_of_getElem? (i := 96) rfl)) (hw _ (List.mem_of_getElem? (i := 97) rfl)) (hw _ (List.mem_of_getElem? (i := 98) rfl)) (hw _ (List.mem_of_getElem? (i := 99) rfl)) (by decide) (rm_min l Z a0 hw (own_size (own_tr (own_szo q1) (own_fill (q0 &&& (3 : Int32))))) (own_szo q2) T150.heap) ⟨rfl, rfl⟩ pd_8 rfl (argsL := [(.int (own_size (own_tr (own_szo q1) (own_fill (q0 &&& (3 : Int32)))))), (.int (own_szo q2))]) (rest := [(.int (own_size (own_tr (own_szo q2) (own_tr (own_szo q1) (own_fill (q0 &&& (3 : Int32)))))))]) rfl rfl at_99 (Nat.le_of_ble_eq_true rfl) (Nat.le_of_ble_eq_true rfl) (Nat.le_of_ble_eq_true rfl) (Nat.le_of_ble_eq_true rfl) (pc' := 102) rfl (fun T152 X152 e152 => ?_)
      refine ow_icmp_ne C X152 at_102 (pcT := 109) (pc' := 105) (by decide) (by decide) rfl (fun b102 => ?_) (fun b102 => ?_)
      · refine ow_iconst (0 : Int32) C X152 at_109 (by decide) (pc' := 110) rfl ?_
        have jq := jk153 T152 X152 e152
        rw [show (own_law_j110 q0 q1 q2) = (0 : Int32) from by unfold own_law_j110; (try rw [if_neg b90]); (try rw [if_neg b102]); (try rfl)] at jq
        exact jq
      · refine ow_iconst (1 : Int32) C X152 at_105 (by decide) (pc' := 106) rfl ?_
        refine ow_goto C X152 at_106 (pcT := 110) (by decide) (by decide) ?_
        have jq := jk153 T152 X152 e152
        rw [show (own_law_j110 q0 q1 q2) = (1 : Int32) from by unfold own_law_j110; (try rw [if_neg b90]); (try rw [if_pos b102]); (try rfl)] at jq
        exact jq
  refine ow_istore C X153 at_110 (Ls' := #[.val (.int q0), .val (.int q1), .val (.int q2), .val (.int (q0 &&& (3 : Int32))), .val (.int (own_szo q1)), .val (.int (own_szo q2)), .val (.ref o), .val (.ref q), .val (.int (own_size (own_tr (own_szo q1) (own_fill (q0 &&& (3 : Int32)))))), .val (.int (own_law_j110 q0 q1 q2)), .val (.int (own_size (own_tr (own_szo q2) (own_tr (own_szo q1) (own_fill (q0 &&& (3 : Int32))))))), .unset]) rfl (pc' := 112) rfl ?_
  refine ow_aload C X153 at_112 rfl rfl (pc' := 114) rfl ?_
  refine ow_aload C X153 at_114 rfl rfl (pc' := 116) rfl ?_
  refine ow_iconst (0 : Int32) C X153 at_116 (by decide) (pc' := 117) rfl ?_
  refine ow_callV C X153 e153 (hw _ (List.mem_of_getElem? (i := 100) rfl)) (hw _ (List.mem_of_getElem? (i := 101) rfl)) (hw _ (List.mem_of_getElem? (i := 103) rfl)) rfl (hw _ (List.mem_of_getElem? (i := 102) rfl)) (hw _ (List.mem_of_getElem? (i := 7) rfl)) (hw _ (List.mem_of_getElem? (i := 104) rfl)) (by decide) S150_o.E (rm_add l Z a0 hw o q (own_tr (own_szo q2) (own_tr (own_szo q1) (own_fill (q0 &&& (3 : Int32))))) ad bd T150.heap n0 q S150_o S150_q G (own_tr_b (own_szo_b q2) (own_tr_b (own_szo_b q1) (own_fill_b (q0 &&& (3 : Int32)))))) pd_3 rfl (argsL := [(.ref q), (.int (0 : Int32))]) (rest := []) rfl rfl at_117 (Nat.le_of_ble_eq_true rfl) (Nat.le_of_ble_eq_true rfl) (Nat.le_of_ble_eq_true rfl) (Nat.le_of_ble_eq_true rfl) (pc' := 120) rfl (fun T154 v154 L154 X154 Q154 => ?_)
  obtain ⟨rfl, N154, S154_o, S154_q⟩ := Q154
  have Nn154 := Fr.app Nn150 N154
  show OwF p e below _ T154 (mkF m 120 #[.val (.int q0), .val (.int q1), .val (.int q2), .val (.int (q0 &&& (3 : Int32))), .val (.int (own_szo q1)), .val (.int (own_szo q2)), .val (.ref o), .val (.ref q), .val (.int (own_size (own_tr (own_szo q1) (own_fill (q0 &&& (3 : Int32)))))), .val (.int (own_law_j110 q0 q1 q2)), .val (.int (own_size (own_tr (own_szo q2) (own_tr (own_szo q1) (own_fill (q0 &&& (3 : Int32))))))), .unset] [(.int (own_tr (own_szo q2) (own_tr (own_szo q1) (own_fill (q0 &&& (3 : Int32))))))])
  refine ow_istore C X154 at_120 (Ls' := #[.val (.int q0), .val (.int q1), .val (.int q2), .val (.int (q0 &&& (3 : Int32))), .val (.int (own_szo q1)), .val (.int (own_szo q2)), .val (.ref o), .val (.ref q), .val (.int (own_size (own_tr (own_szo q1) (own_fill (q0 &&& (3 : Int32)))))), .val (.int (own_law_j110 q0 q1 q2)), .val (.int (own_size (own_tr (own_szo q2) (own_tr (own_szo q1) (own_fill (q0 &&& (3 : Int32))))))), .val (.int (own_tr (own_szo q2) (own_tr (own_szo q1) (own_fill (q0 &&& (3 : Int32))))))]) rfl (pc' := 122) rfl ?_
  refine ow_iload C X154 at_122 rfl (pc' := 124) rfl ?_
  refine ow_join X154 rfl (f' := (mkF m 151 #[.val (.int q0), .val (.int q1), .val (.int q2), .val (.int (q0 &&& (3 : Int32))), .val (.int (own_szo q1)), .val (.int (own_szo q2)), .val (.ref o), .val (.ref q), .val (.int (own_size (own_tr (own_szo q1) (own_fill (q0 &&& (3 : Int32)))))), .val (.int (own_law_j110 q0 q1 q2)), .val (.int (own_size (own_tr (own_szo q2) (own_tr (own_szo q1) (own_fill (q0 &&& (3 : Int32))))))), .val (.int (own_tr (own_szo q2) (own_tr (own_szo q1) (own_fill (q0 &&& (3 : Int32))))))] [(.int (own_law_j151 q0 q1 q2))])) ?_ (fun T156 X156 e156 => ?_)
  · intro D156 jk156
    refine ow_if_eq C X154 at_124 (pcT := 150) (pc' := 127) (by decide) (by decide) rfl (fun b124 => ?_) (fun b124 => ?_)
    · refine ow_iconst (0 : Int32) C X154 at_150 (by decide) (pc' := 151) rfl ?_
      have jq := jk156 T154 X154 rfl
      rw [show (own_law_j151 q0 q1 q2) = (0 : Int32) from by unfold own_law_j151; (try rw [if_pos b124]); (try rfl)] at jq
      exact jq
    · refine ow_iload C X154 at_127 rfl (pc' := 129) rfl ?_
      refine ow_iload C X154 at_129 rfl (pc' := 131) rfl ?_
      refine ow_icmp_ne C X154 at_131 (pcT := 150) (pc' := 134) (by decide) (by decide) rfl (fun b131 => ?_) (fun b131 => ?_)
      · refine ow_iconst (0 : Int32) C X154 at_150 (by decide) (pc' := 151) rfl ?_
        have jq := jk156 T154 X154 rfl
        rw [show (own_law_j151 q0 q1 q2) = (0 : Int32) from by unfold own_law_j151; (try rw [if_neg b124]); (try rw [if_neg b131]); (try rfl)] at jq
        exact jq
      · refine ow_aload C X154 at_134 rfl rfl (pc' := 136) rfl ?_
        refine ow_callVP C X154 rfl (hw _ (List.mem_of_getElem? (i := 91) rfl)) (hw _ (List.mem_of_getElem? (i := 92) rfl)) (hw _ (List.mem_of_getElem? (i := 94) rfl)) rfl (hw _ (List.mem_of_getElem? (i := 93) rfl)) (hw _ (List.mem_of_getElem? (i := 7) rfl)) (hw _ (List.mem_of_getElem? (i := 95) rfl)) (by decide) S154_o.E (rm_size l Z a0 hw o ((own_tr (own_szo q2) (own_tr (own_szo q1) (own_fill (q0 &&& (3 : Int32))))) + (1 : Int32)) T154.heap S154_o.n0) ⟨rfl, rfl⟩ pd_9 rfl (argsL := []) (rest := []) rfl rfl at_136 (Nat.le_of_ble_eq_true rfl) (Nat.le_of_ble_eq_true rfl) (Nat.le_of_ble_eq_true rfl) (Nat.le_of_ble_eq_true rfl) (pc' := 139) rfl (fun T155 X155 e155 => ?_)
        refine ow_iload C X155 at_139 rfl (pc' := 141) rfl ?_
        refine ow_iconst (1 : Int32) C X155 at_141 (by decide) (pc' := 142) rfl ?_
        refine ow_iadd C X155 at_142 (pc' := 143) rfl ?_
        refine ow_icmp_ne C X155 at_143 (pcT := 150) (pc' := 146) (by decide) (by decide) rfl (fun b143 => ?_) (fun b143 => ?_)
        · refine ow_iconst (0 : Int32) C X155 at_150 (by decide) (pc' := 151) rfl ?_
          have jq := jk156 T155 X155 e155
          rw [show (own_law_j151 q0 q1 q2) = (0 : Int32) from by unfold own_law_j151; (try rw [if_neg b124]); (try rw [if_pos b131]); (try rw [if_neg b143]); (try rfl)] at jq
          exact jq
        · refine ow_iconst (1 : Int32) C X155 at_146 (by decide) (pc' := 147) rfl ?_
          refine ow_goto C X155 at_147 (pcT := 151) (by decide) (by decide) ?_
          have jq := jk156 T155 X155 e155
          rw [show (own_law_j151 q0 q1 q2) = (1 : Int32) from by unfold own_law_j151; (try rw [if_neg b124]); (try rw [if_pos b131]); (try rw [if_pos b143]); (try rfl)] at jq
          exact jq
  refine ow_istore C X156 at_151 (Ls' := #[.val (.int q0), .val (.int q1), .val (.int q2), .val (.int (q0 &&& (3 : Int32))), .val (.int (own_szo q1)), .val (.int (own_szo q2)), .val (.ref o), .val (.ref q), .val (.int (own_size (own_tr (own_szo q1) (own_fill (q0 &&& (3 : Int32)))))), .val (.int (own_law_j151 q0 q1 q2)), .val (.int (own_size (own_tr (own_szo q2) (own_tr (own_szo q1) (own_fill (q0 &&& (3 : Int32))))))), .val (.int (own_tr (own_szo q2) (own_tr (own_szo q1) (own_fill (q0 &&& (3 : Int32))))))]) rfl (pc' := 153) rfl ?_
  refine ow_iload C X156 at_153 rfl (pc' := 155) rfl ?_
  exact ow_retZ C X156 at_155 (Nat.le_of_ble_eq_true rfl) (Nat.le_of_ble_eq_true rfl) (own_law_j151_01 q0 q1 q2) ⟨(show some (Value.int (own_law_j151 q0 q1 q2)) = some (Value.int (own_law q0 q1 q2)) from congrArg (fun z => some (Value.int z)) rfl), Nn154⟩
theorem own_and3 (x : Int32) : x &&& (3 : Int32) = 0 ∨ x &&& (3 : Int32) = 1 ∨ x &&& (3 : Int32) = 2 ∨ x &&& (3 : Int32) = 3 := by
  have h : (x &&& (3 : Int32)).toBitVec.toNat ≤ 3 := by
    rw [Int32.toBitVec_and, BitVec.toNat_and]; exact Nat.and_le_right
  have e : ∀ k : Nat, k ≤ 3 → (x &&& (3 : Int32)).toBitVec.toNat = k → x &&& (3 : Int32) = Int32.ofNat k := fun k hk q => by
    apply Int32.toBitVec_inj.mp
    apply BitVec.eq_of_toNat_eq
    rw [q]
    have : k = 0 ∨ k = 1 ∨ k = 2 ∨ k = 3 := by omega
    rcases this with rfl | rfl | rfl | rfl <;> rfl
  generalize hk : (x &&& (3 : Int32)).toBitVec.toNat = k at *
  have h4 : k = 0 ∨ k = 1 ∨ k = 2 ∨ k = 3 := by omega
  rcases h4 with rfl | rfl | rfl | rfl
  · exact Or.inl (e 0 (by omega) rfl)
  · exact Or.inr (Or.inl (e 1 (by omega) rfl))
  · exact Or.inr (Or.inr (Or.inl (e 2 (by omega) rfl)))
  · exact Or.inr (Or.inr (Or.inr (e 3 (by omega) rfl)))
theorem own_law_true (q0 : Int32) (q1 : Int32) (q2 : Int32) : own_law q0 q1 q2 = 1 := by
  have hf : own_fill (q0 &&& 3) = q0 &&& 3 := by rcases own_and3 q0 with h | h | h | h <;> rw [h] <;> decide
  have h72 : own_law_j72 q0 q1 q2 = 1 := by unfold own_law_j72 own_size; rw [hf]; exact if_pos rfl
  have h110 : own_law_j110 q0 q1 q2 = 1 := by unfold own_law_j110 own_size; rw [h72, if_neg (by decide)]; exact if_pos rfl
  unfold own_law own_law_j151 own_size
  rw [h110, if_neg (by decide), if_pos rfl, if_pos rfl]

set_option maxRecDepth 65536 in
set_option maxHeartbeats 40000000 in
theorem comes_1 {Post : Tables → Env → Array Value → State → Outcome → State → Prop} (hpost : ∀ tb e args s v u, (limb_1_1.after args s (.returned v) u = true ∧ limb_1_2.after args s (.returned v) u = true ∧ True) → FrameEnd s (.returned v) u (Jvm.fieldLocs frame_1_writes args s ++ Jvm.arrayLocs frame_1_arrays args s ++ Jvm.staticLocs frame_1_statics s) 96 3328 → Post tb e args s (.returned v) u) :
    ArmFor flags0 classFile x code maxLocals ret World_1 tables_1 room_1 Calls_1 rest_1 Pre_1 Post := by
  intro l hfl _ _ p e ha hc hk s m args below hf hA hF happ hP
  obtain ⟨hcalls, hrest, hpre⟩ := hP
  obtain ⟨-, -, -, hnamed, -, -, -, hat⟩ := (Spec.applies_iff hf).mp happ
  obtain ⟨hg, hn⟩ := and_e (Cond.before_iff.mp (show (Jvm.Cond.and given_1 narrow_1).before args s = true from hpre))
  obtain ⟨h1, hg0⟩ := and_e hg
  obtain ⟨ha0, hg1⟩ := and_e hg0
  obtain ⟨ha1, hg2⟩ := and_e hg1
  obtain ⟨w0, w1, w2, rfl⟩ : ∃ w0 w1 w2 : Value, args = #[w0, w1, w2] := by
    have hs : args.size = 3 := by simpa [Cond.value, given_1] using h1
    obtain ⟨L⟩ := args
    match L, hs with
    | [w0, w1, w2], _ => exact ⟨w0, w1, w2, rfl⟩
  have hw := fun d (hd : d ∈ tables_1) => atoms_spec (ws := Jvm.Cond.code x code maxLocals ret :: tables_1) hat d (List.mem_cons_of_mem _ hd)
  obtain ⟨q0, ev0⟩ := is_v ha0
  obtain rfl : w0 = (.int q0) := Option.some.inj ev0
  obtain ⟨q1, ev1⟩ := is_v ha1
  obtain rfl : w1 = (.int q1) := Option.some.inj ev1
  obtain ⟨q2, ev2⟩ := is_v hg2
  obtain rfl : w2 = (.int q2) := Option.some.inj ev2
  obtain ⟨n, o, h1, h2, h3, _, L, rfl, ⟨rfl, N⟩, hq⟩ := rm_law l s _ hw q0 q1 q2 s.heap s.heap.size (Nat.le_refl _)  tables_1 p e ha hc hk s m _ below hf ((Spec.applies_iff_loose hf).mp happ).1 ⟨rfl, State.Warmed39.refl s, rfl⟩ trivial
  rw [own_law_true q0 q1 q2] at *
  refine ⟨n, _, h1, h2, h3, hpost _ _ _ _ _ _ ⟨Cond.after_iff.mpr rfl, Cond.after_iff.mpr (eq_i res_at (Term.int_eval (1)) rfl), trivial⟩ ⟨hq.1, hq.2.1, (hq.2.2.sift fun y hy => Or.inr (N y hy)).mono (by decide) (by decide)⟩⟩
theorem main_1_1 : Claimed_1_1 := comes_1 fun _ _ _ _ _ _ h hF => ⟨h.1, hF⟩
theorem main_1_2 : Claimed_1_2 := comes_1 fun _ _ _ _ _ _ h hF => ⟨h.2.1, hF⟩
end Jvm.Pilot.@@N@@
namespace Jvm.Pilot.@@N@@
open Jvm Jvm.ClassFile Sem Op Lib Jvm.Free Jvm.Stand Jvm.Pilot.@@N@@.Jvm.D
/-! MADE BY PROGRAM (witnessworld.py) out of the Statement's table words and the real class files: 26 classes; the members and pool entries that the words name. The judged class is class 1, her method 3. -/
namespace start1
open Jvm.ClassFile
def u (s : String) : CpInfo := .utf8 (stringToUtf16 s)
/-- a pool by its gaps: so many unusable entries, then the entry; so many at the end -/
def gap : Nat → List CpInfo → List CpInfo
  | 0, r => r
  | n + 1, r => .unusable :: gap n r
def poolList (es : List (Nat × CpInfo)) (last : Nat) : List CpInfo := es.foldr (fun e r => gap e.1 (e.2 :: r)) (gap last [])
def pool (es : List (Nat × CpInfo)) (last : Nat) : Array CpInfo := ⟨poolList es last⟩
def fileOf (pool : Array CpInfo) (this : Nat) (attrs : Array Attribute := #[]) (ms : Array MethodInfo := #[]) (fl : Nat := 33) (sup : Nat := 0) (ifs : Array Nat := #[]) (fds : Array FieldInfo := #[]) : ClassFile where
  minorVersion := 0
  majorVersion := 65
  constantPool := pool
  accessFlags := fl
  thisClass := this
  superClass := sup
  interfaces := ifs
  fields := fds
  methods := ms
  attributes := attrs
def plain (name : String) (sup : Option ClassId) : Class where
  name := name
  kind := .ordinary
  loader := none
  accessFlags := 33
  super := sup
  interfaces := #[]
  cf := none
  fields := #[]
  methods := #[]
  instanceTypes := #[]
  staticTypes := #[]
  resolved := #[]
  callSites := []
  init := .initialized
  statics := none
  mirror := none

def pool0 : Array CpInfo := pool [(5, u "<init>"), (0, u "()V"), (1, .class_ 10), (1, u "java/lang/Object")] 113

def k0c0 : Code := { maxStack := 0, maxLocals := 1, code := object_method_1_code, exceptionTable := #[], attributes := #[] }
def k0m0 : Method := { name := "<init>", desc := "()V", sig := { parameters := [], returnType := none }, accessFlags := 1, code := some k0c0 }
/-- java/lang/Object -/
def k0 : Class := { plain "java/lang/Object" none with
  accessFlags := 33
  interfaces := #[]
  cf := some (fileOf pool0 8 #[] #[{ accessFlags := 1, nameIndex := 5, descriptorIndex := 6, attributes := #[] }] 33 0 #[] #[])
  fields := #[]
  methods := #[k0m0]
  instanceTypes := #[]
  staticTypes := #[]
  resolved := Array.replicate 124 none
  statics := none }

def pool1 : Array CpInfo := pool [(2, .class_ 4), (0, .nameAndType 5 6), (0, u "java/lang/Object"), (0, u "<init>"), (0, u "()V"), (0, .methodref 8 9), (0, .class_ 10), (0, .nameAndType 11 12), (0, u "com/example/narrow_view/narrowview/StartTags"), (0, u "add"), (0, u "(Lcom/example/narrow_view/narrowview/StartTags;I)I"), (0, .integer 2147483647), (0, .methodref 15 16), (0, .class_ 17), (0, .nameAndType 18 19), (0, u "com/example/narrow_view/narrowview/StartTagsTruncatePinLaw"), (0, u "sizeOf"), (0, u "(I)I"), (0, .methodref 8 3), (0, .methodref 15 22), (0, .nameAndType 23 24), (0, u "fill"), (0, u "(Lcom/example/narrow_view/narrowview/StartTags;Lcom/example/narrow_view/narrowview/StartTags;I)V"), (0, .methodref 8 26), (0, .nameAndType 27 28), (0, u "truncate"), (0, u "(I)V"), (0, .methodref 8 30), (0, .nameAndType 31 32), (0, u "size"), (0, u "()I"), (0, .methodref 34 35), (0, .class_ 36), (0, .nameAndType 37 38), (0, u "java/lang/Math"), (0, u "min"), (0, u "(II)I"), (3, u "law"), (0, u "(III)Z")] 2

def k1m0 : Method := { name := "<init>", desc := "()V", sig := { parameters := [], returnType := none }, accessFlags := 2, code := none }
def k1c1 : Code := { maxStack := 3, maxLocals := 3, code := method_2_code, exceptionTable := #[], attributes := #[] }
def k1m1 : Method := { name := "fill", desc := "(Lcom/example/narrow_view/narrowview/StartTags;Lcom/example/narrow_view/narrowview/StartTags;I)V", sig := { parameters := [(.object "com/example/narrow_view/narrowview/StartTags"), (.object "com/example/narrow_view/narrowview/StartTags"), .int], returnType := none }, accessFlags := 10, code := some k1c1 }
def k1c2 : Code := { maxStack := 2, maxLocals := 1, code := method_3_code, exceptionTable := #[], attributes := #[] }
def k1m2 : Method := { name := "sizeOf", desc := "(I)I", sig := { parameters := [.int], returnType := some .int }, accessFlags := 10, code := some k1c2 }
def k1c3 : Code := { maxStack := 3, maxLocals := 12, code := code, exceptionTable := #[], attributes := #[] }
def k1m3 : Method := { name := "law", desc := "(III)Z", sig := { parameters := [.int, .int, .int], returnType := some .boolean }, accessFlags := 9, code := some k1c3 }
/-- com/example/narrow_view/narrowview/StartTagsTruncatePinLaw -/
def k1 : Class := { plain "com/example/narrow_view/narrowview/StartTagsTruncatePinLaw" (some 0) with
  accessFlags := 49
  interfaces := #[]
  cf := some (fileOf pool1 15 #[] #[{ accessFlags := 2, nameIndex := 5, descriptorIndex := 6, attributes := #[] }, { accessFlags := 10, nameIndex := 23, descriptorIndex := 24, attributes := #[] }, { accessFlags := 10, nameIndex := 18, descriptorIndex := 19, attributes := #[] }, { accessFlags := 9, nameIndex := 42, descriptorIndex := 43, attributes := #[] }] 49 2 #[] #[])
  fields := #[]
  methods := #[k1m0, k1m1, k1m2, k1m3]
  instanceTypes := #[]
  staticTypes := #[]
  resolved := Array.replicate 46 none
  statics := none }

def pool2 : Array CpInfo := pool [(1, .methodref 2 3), (0, .class_ 4), (0, .nameAndType 5 6), (0, u "java/lang/Object"), (0, u "<init>"), (0, u "()V"), (0, .class_ 8), (0, u "java/lang/String"), (0, .fieldref 10 11), (0, .class_ 12), (0, .nameAndType 13 14), (0, u "com/example/narrow_view/narrowview/StartTags"), (0, u "prefixes"), (0, u "[Ljava/lang/String;"), (0, .fieldref 10 16), (0, .nameAndType 17 14), (0, u "localNames"), (0, .fieldref 10 19), (0, .nameAndType 20 14), (0, u "namespaceUris"), (0, .fieldref 10 22), (0, .nameAndType 23 24), (0, u "firstDeclarations"), (0, u "[I"), (0, .fieldref 10 26), (0, .nameAndType 27 24), (0, u "firstAttributes"), (0, .class_ 29), (0, u "com/example/narrow_view/narrowview/TagDefaults"), (0, .fieldref 10 31), (0, .nameAndType 32 33), (0, u "tagDefaults"), (0, u "[Lcom/example/narrow_view/narrowview/TagDefaults;"), (0, .fieldref 10 35), (0, .nameAndType 36 37), (0, u "takesDefaults"), (0, u "[Z"), (0, .fieldref 10 39), (0, .nameAndType 40 14), (0, u "declaredPrefixes"), (0, .fieldref 10 42), (0, .nameAndType 43 14), (0, u "declaredUris"), (0, .fieldref 10 45), (0, .nameAndType 46 14), (0, u "attributeNamespaces"), (0, .fieldref 10 48), (0, .nameAndType 49 14), (0, u "attributeLocalNames"), (0, .fieldref 10 51), (0, .nameAndType 52 14), (0, u "attributePrefixes"), (0, .fieldref 10 54), (0, .nameAndType 55 24), (0, u "valueEnds"), (0, .fieldref 10 57), (0, .nameAndType 58 59), (0, u "values"), (0, u "[C"), (0, .fieldref 10 61), (0, .nameAndType 62 63), (0, u "suppliedTag"), (0, u "I"), (0, .fieldref 10 65), (0, .nameAndType 66 14), (0, u "suppliedNamespaces"), (0, .fieldref 10 68), (0, .nameAndType 69 14), (0, u "suppliedLocalNames"), (0, .fieldref 10 71), (0, .nameAndType 72 14), (0, u "suppliedPrefixes"), (0, .fieldref 10 74), (0, .nameAndType 75 24), (0, u "suppliedValueEnds"), (0, .class_ 77), (0, u "com/example/narrow_view/narrowview/CharBuilder"), (0, .methodref 76 3), (0, .fieldref 10 80), (0, .nameAndType 81 82), (0, u "suppliedValues"), (0, u "Lcom/example/narrow_view/narrowview/CharBuilder;"), (0, .class_ 84), (0, u "com/example/narrow_view/narrowview/StartTags$1"), (0, .methodref 83 86), (0, .nameAndType 5 87), (0, u "(Lcom/example/narrow_view/narrowview/StartTags;)V"), (0, .fieldref 10 89), (0, .nameAndType 90 91), (0, u "supplier"), (0, u "Lcom/example/narrow_view/narrowview/TagDefaults$Target;"), (0, .fieldref 10 93), (0, .nameAndType 94 63), (0, u "count"), (19, .fieldref 10 115), (0, .nameAndType 116 63), (0, u "declarations"), (3, u "()I"), (3, u "(I)V"), (6, .fieldref 10 132), (0, .nameAndType 133 63), (0, u "attributes"), (13, u "(I)I"), (3, .methodref 10 152), (0, .nameAndType 153 154), (0, u "copyValue"), (0, u "([CII)V"), (9, .fieldref 10 165), (0, .nameAndType 166 63), (0, u "valueCount"), (3, .methodref 10 171), (0, .nameAndType 172 173), (0, u "keepDefaults"), (0, u "(ILcom/example/narrow_view/narrowview/TagDefaults;)V"), (0, .methodref 10 175), (0, .nameAndType 176 147), (0, u "namespaceCount"), (0, .methodref 178 179), (0, .class_ 180), (0, .nameAndType 181 182), (0, u "java/lang/System"), (0, u "arraycopy"), (0, u "(Ljava/lang/Object;ILjava/lang/Object;II)V"), (0, .methodref 10 184), (0, .nameAndType 185 147), (0, u "ownAttributeCount"), (41, u "suppliedCount"), (41, u "add"), (3, u "(Lcom/example/narrow_view/narrowview/StartTags;I)I"), (0, u "size"), (0, u "truncate")] 21

def k2c0 : Code := { maxStack := 4, maxLocals := 1, code := prog_63_method_1_code, exceptionTable := #[], attributes := #[] }
def k2m0 : Method := { name := "<init>", desc := "()V", sig := { parameters := [], returnType := none }, accessFlags := 0, code := some k2c0 }
def k2c1 : Code := { maxStack := 6, maxLocals := 10, code := prog_63_method_3_code, exceptionTable := #[], attributes := #[] }
def k2m1 : Method := { name := "add", desc := "(Lcom/example/narrow_view/narrowview/StartTags;I)I", sig := { parameters := [(.object "com/example/narrow_view/narrowview/StartTags"), .int], returnType := some .int }, accessFlags := 0, code := some k2c1 }
def k2c2 : Code := { maxStack := 1, maxLocals := 1, code := prog_63_method_4_code, exceptionTable := #[], attributes := #[] }
def k2m2 : Method := { name := "size", desc := "()I", sig := { parameters := [], returnType := some .int }, accessFlags := 0, code := some k2c2 }
def k2c3 : Code := { maxStack := 4, maxLocals := 2, code := prog_63_method_5_code, exceptionTable := #[], attributes := #[] }
def k2m3 : Method := { name := "truncate", desc := "(I)V", sig := { parameters := [.int], returnType := none }, accessFlags := 0, code := some k2c3 }
def k2c4 : Code := { maxStack := 3, maxLocals := 2, code := prog_63_method_10_code, exceptionTable := #[], attributes := #[] }
def k2m4 : Method := { name := "namespaceCount", desc := "(I)I", sig := { parameters := [.int], returnType := some .int }, accessFlags := 0, code := some k2c4 }
def k2c5 : Code := { maxStack := 3, maxLocals := 2, code := prog_63_method_21_code, exceptionTable := #[], attributes := #[] }
def k2m5 : Method := { name := "ownAttributeCount", desc := "(I)I", sig := { parameters := [.int], returnType := some .int }, accessFlags := 2, code := some k2c5 }
def k2c6 : Code := { maxStack := 4, maxLocals := 3, code := prog_63_method_22_code, exceptionTable := #[], attributes := #[] }
def k2m6 : Method := { name := "keepDefaults", desc := "(ILcom/example/narrow_view/narrowview/TagDefaults;)V", sig := { parameters := [.int, (.object "com/example/narrow_view/narrowview/TagDefaults")], returnType := none }, accessFlags := 2, code := some k2c6 }
def k2c7 : Code := { maxStack := 5, maxLocals := 4, code := prog_63_method_26_code, exceptionTable := #[], attributes := #[] }
def k2m7 : Method := { name := "copyValue", desc := "([CII)V", sig := { parameters := [(.array .char), .int, .int], returnType := none }, accessFlags := 2, code := some k2c7 }
/-- com/example/narrow_view/narrowview/StartTags -/
def k2 : Class := { plain "com/example/narrow_view/narrowview/StartTags" (some 0) with
  accessFlags := 48
  interfaces := #[]
  cf := some (fileOf pool2 10 #[.nestMembers #[83]] #[{ accessFlags := 0, nameIndex := 5, descriptorIndex := 6, attributes := #[] }, { accessFlags := 0, nameIndex := 269, descriptorIndex := 273, attributes := #[] }, { accessFlags := 0, nameIndex := 274, descriptorIndex := 120, attributes := #[] }, { accessFlags := 0, nameIndex := 275, descriptorIndex := 124, attributes := #[] }, { accessFlags := 0, nameIndex := 176, descriptorIndex := 147, attributes := #[] }, { accessFlags := 2, nameIndex := 185, descriptorIndex := 147, attributes := #[] }, { accessFlags := 2, nameIndex := 172, descriptorIndex := 173, attributes := #[] }, { accessFlags := 2, nameIndex := 153, descriptorIndex := 154, attributes := #[] }] 48 2 #[] #[{ accessFlags := 2, nameIndex := 13, descriptorIndex := 14, attributes := #[] }, { accessFlags := 2, nameIndex := 17, descriptorIndex := 14, attributes := #[] }, { accessFlags := 2, nameIndex := 20, descriptorIndex := 14, attributes := #[] }, { accessFlags := 2, nameIndex := 23, descriptorIndex := 24, attributes := #[] }, { accessFlags := 2, nameIndex := 27, descriptorIndex := 24, attributes := #[] }, { accessFlags := 2, nameIndex := 32, descriptorIndex := 33, attributes := #[] }, { accessFlags := 2, nameIndex := 36, descriptorIndex := 37, attributes := #[] }, { accessFlags := 2, nameIndex := 94, descriptorIndex := 63, attributes := #[] }, { accessFlags := 2, nameIndex := 40, descriptorIndex := 14, attributes := #[] }, { accessFlags := 2, nameIndex := 43, descriptorIndex := 14, attributes := #[] }, { accessFlags := 2, nameIndex := 116, descriptorIndex := 63, attributes := #[] }, { accessFlags := 2, nameIndex := 46, descriptorIndex := 14, attributes := #[] }, { accessFlags := 2, nameIndex := 49, descriptorIndex := 14, attributes := #[] }, { accessFlags := 2, nameIndex := 52, descriptorIndex := 14, attributes := #[] }, { accessFlags := 2, nameIndex := 55, descriptorIndex := 24, attributes := #[] }, { accessFlags := 2, nameIndex := 133, descriptorIndex := 63, attributes := #[] }, { accessFlags := 2, nameIndex := 58, descriptorIndex := 59, attributes := #[] }, { accessFlags := 2, nameIndex := 166, descriptorIndex := 63, attributes := #[] }, { accessFlags := 2, nameIndex := 62, descriptorIndex := 63, attributes := #[] }, { accessFlags := 2, nameIndex := 66, descriptorIndex := 14, attributes := #[] }, { accessFlags := 2, nameIndex := 69, descriptorIndex := 14, attributes := #[] }, { accessFlags := 2, nameIndex := 72, descriptorIndex := 14, attributes := #[] }, { accessFlags := 2, nameIndex := 75, descriptorIndex := 24, attributes := #[] }, { accessFlags := 2, nameIndex := 227, descriptorIndex := 63, attributes := #[] }, { accessFlags := 18, nameIndex := 81, descriptorIndex := 82, attributes := #[] }, { accessFlags := 18, nameIndex := 90, descriptorIndex := 91, attributes := #[] }])
  fields := #[{ name := "prefixes", type := (.array (.object "java/lang/String")), accessFlags := 2, slot := 0, constantValue := 0 }, { name := "localNames", type := (.array (.object "java/lang/String")), accessFlags := 2, slot := 1, constantValue := 0 }, { name := "namespaceUris", type := (.array (.object "java/lang/String")), accessFlags := 2, slot := 2, constantValue := 0 }, { name := "firstDeclarations", type := (.array .int), accessFlags := 2, slot := 3, constantValue := 0 }, { name := "firstAttributes", type := (.array .int), accessFlags := 2, slot := 4, constantValue := 0 }, { name := "tagDefaults", type := (.array (.object "com/example/narrow_view/narrowview/TagDefaults")), accessFlags := 2, slot := 5, constantValue := 0 }, { name := "takesDefaults", type := (.array .boolean), accessFlags := 2, slot := 6, constantValue := 0 }, { name := "count", type := .int, accessFlags := 2, slot := 7, constantValue := 0 }, { name := "declaredPrefixes", type := (.array (.object "java/lang/String")), accessFlags := 2, slot := 8, constantValue := 0 }, { name := "declaredUris", type := (.array (.object "java/lang/String")), accessFlags := 2, slot := 9, constantValue := 0 }, { name := "declarations", type := .int, accessFlags := 2, slot := 10, constantValue := 0 }, { name := "attributeNamespaces", type := (.array (.object "java/lang/String")), accessFlags := 2, slot := 11, constantValue := 0 }, { name := "attributeLocalNames", type := (.array (.object "java/lang/String")), accessFlags := 2, slot := 12, constantValue := 0 }, { name := "attributePrefixes", type := (.array (.object "java/lang/String")), accessFlags := 2, slot := 13, constantValue := 0 }, { name := "valueEnds", type := (.array .int), accessFlags := 2, slot := 14, constantValue := 0 }, { name := "attributes", type := .int, accessFlags := 2, slot := 15, constantValue := 0 }, { name := "values", type := (.array .char), accessFlags := 2, slot := 16, constantValue := 0 }, { name := "valueCount", type := .int, accessFlags := 2, slot := 17, constantValue := 0 }, { name := "suppliedTag", type := .int, accessFlags := 2, slot := 18, constantValue := 0 }, { name := "suppliedNamespaces", type := (.array (.object "java/lang/String")), accessFlags := 2, slot := 19, constantValue := 0 }, { name := "suppliedLocalNames", type := (.array (.object "java/lang/String")), accessFlags := 2, slot := 20, constantValue := 0 }, { name := "suppliedPrefixes", type := (.array (.object "java/lang/String")), accessFlags := 2, slot := 21, constantValue := 0 }, { name := "suppliedValueEnds", type := (.array .int), accessFlags := 2, slot := 22, constantValue := 0 }, { name := "suppliedCount", type := .int, accessFlags := 2, slot := 23, constantValue := 0 }, { name := "suppliedValues", type := (.object "com/example/narrow_view/narrowview/CharBuilder"), accessFlags := 18, slot := 24, constantValue := 0 }, { name := "supplier", type := (.object "com/example/narrow_view/narrowview/TagDefaults$Target"), accessFlags := 18, slot := 25, constantValue := 0 }]
  methods := #[k2m0, k2m1, k2m2, k2m3, k2m4, k2m5, k2m6, k2m7]
  instanceTypes := #[(.array (.object "java/lang/String")), (.array (.object "java/lang/String")), (.array (.object "java/lang/String")), (.array .int), (.array .int), (.array (.object "com/example/narrow_view/narrowview/TagDefaults")), (.array .boolean), .int, (.array (.object "java/lang/String")), (.array (.object "java/lang/String")), .int, (.array (.object "java/lang/String")), (.array (.object "java/lang/String")), (.array (.object "java/lang/String")), (.array .int), .int, (.array .char), .int, .int, (.array (.object "java/lang/String")), (.array (.object "java/lang/String")), (.array (.object "java/lang/String")), (.array .int), .int, (.object "com/example/narrow_view/narrowview/CharBuilder"), (.object "com/example/narrow_view/narrowview/TagDefaults$Target")]
  staticTypes := #[]
  resolved := Array.replicate 297 none
  statics := none }

def pool3 : Array CpInfo := pool [(1, .class_ 2), (0, u "java/io/Serializable"), (0, .class_ 4), (0, u "java/lang/Object")] 2

/-- java/io/Serializable -/
def k3 : Class := { plain "java/io/Serializable" (some 0) with
  accessFlags := 1537
  interfaces := #[]
  cf := some (fileOf pool3 1 #[] #[] 1537 3 #[] #[])
  fields := #[]
  methods := #[]
  instanceTypes := #[]
  staticTypes := #[]
  resolved := Array.replicate 7 none
  statics := none }

def pool4 : Array CpInfo := pool [(1, .class_ 2), (0, u "java/lang/Comparable"), (0, .class_ 4), (0, u "java/lang/Object")] 7

/-- java/lang/Comparable -/
def k4 : Class := { plain "java/lang/Comparable" (some 0) with
  accessFlags := 1537
  interfaces := #[]
  cf := some (fileOf pool4 1 #[] #[] 1537 3 #[] #[])
  fields := #[]
  methods := #[]
  instanceTypes := #[]
  staticTypes := #[]
  resolved := Array.replicate 12 none
  statics := none }

def pool5 : Array CpInfo := pool [(2, .class_ 4), (1, u "java/lang/CharSequence"), (42, .class_ 48), (0, u "java/lang/CharSequence$1CodePointIterator"), (10, .class_ 60), (0, u "java/lang/CharSequence$1CharIterator"), (5, .class_ 67), (0, u "java/lang/Object")] 63

/-- java/lang/CharSequence -/
def k5 : Class := { plain "java/lang/CharSequence" (some 0) with
  accessFlags := 1537
  interfaces := #[]
  cf := some (fileOf pool5 2 #[.nestMembers #[47, 59]] #[] 1537 66 #[] #[])
  fields := #[]
  methods := #[]
  instanceTypes := #[]
  staticTypes := #[]
  resolved := Array.replicate 131 none
  statics := none }

def pool6 : Array CpInfo := pool [(1, .class_ 2), (0, u "java/lang/constant/Constable"), (0, .class_ 4), (0, u "java/lang/Object")] 6

/-- java/lang/constant/Constable -/
def k6 : Class := { plain "java/lang/constant/Constable" (some 0) with
  accessFlags := 1537
  interfaces := #[]
  cf := some (fileOf pool6 1 #[] #[] 1537 3 #[] #[])
  fields := #[]
  methods := #[]
  instanceTypes := #[]
  staticTypes := #[]
  resolved := Array.replicate 11 none
  statics := none }

def pool7 : Array CpInfo := pool [(1, .class_ 2), (0, u "java/lang/constant/ConstantDesc"), (0, .class_ 4), (0, u "java/lang/Object")] 32

/-- java/lang/constant/ConstantDesc -/
def k7 : Class := { plain "java/lang/constant/ConstantDesc" (some 0) with
  accessFlags := 1537
  interfaces := #[]
  cf := some (fileOf pool7 1 #[] #[] 1537 3 #[] #[])
  fields := #[]
  methods := #[]
  instanceTypes := #[]
  staticTypes := #[]
  resolved := Array.replicate 37 none
  statics := none }

def pool8 : Array CpInfo := pool [(2, .class_ 4), (1, u "java/lang/Object"), (0, u "<init>"), (0, u "()V"), (3, .class_ 12), (1, u "java/lang/String"), (0, u "value"), (0, u "[B"), (2, u "coder"), (0, u "B"), (2, u "hash"), (0, u "I"), (2, u "hashIsZero"), (0, u "Z"), (13, u "COMPACT_STRINGS"), (534, .class_ 576), (0, u "java/lang/CharSequence"), (22, u "CASE_INSENSITIVE_ORDER"), (0, u "Ljava/util/Comparator;"), (500, u "serialPersistentFields"), (0, u "[Ljava/io/ObjectStreamField;"), (0, .class_ 1104), (0, u "java/lang/String$CaseInsensitiveComparator"), (1, .class_ 1107), (0, u "java/io/Serializable"), (0, .class_ 1109), (0, u "java/lang/Comparable"), (0, .class_ 1111), (0, u "java/lang/constant/Constable"), (0, .class_ 1113), (0, u "java/lang/constant/ConstantDesc"), (2, u "serialVersionUID"), (0, u "J"), (3, u "REPL"), (0, u "C"), (2, u "LATIN1"), (1, u "UTF16")] 323

def k8m0 : Method := { name := "<init>", desc := "()V", sig := { parameters := [], returnType := none }, accessFlags := 1, code := none }
/-- java/lang/String -/
def k8 : Class := { plain "java/lang/String" (some 0) with
  accessFlags := 49
  interfaces := #[3, 4, 5, 6, 7]
  cf := some (fileOf pool8 10 #[.nestMembers #[1103]] #[{ accessFlags := 1, nameIndex := 5, descriptorIndex := 6, attributes := #[] }] 49 2 #[1106, 1108, 575, 1110, 1112] #[{ accessFlags := 18, nameIndex := 13, descriptorIndex := 14, attributes := #[] }, { accessFlags := 18, nameIndex := 17, descriptorIndex := 18, attributes := #[] }, { accessFlags := 2, nameIndex := 21, descriptorIndex := 22, attributes := #[] }, { accessFlags := 2, nameIndex := 25, descriptorIndex := 26, attributes := #[] }, { accessFlags := 26, nameIndex := 1116, descriptorIndex := 1117, attributes := #[] }, { accessFlags := 24, nameIndex := 40, descriptorIndex := 26, attributes := #[] }, { accessFlags := 26, nameIndex := 1101, descriptorIndex := 1102, attributes := #[] }, { accessFlags := 26, nameIndex := 1121, descriptorIndex := 1122, attributes := #[] }, { accessFlags := 25, nameIndex := 599, descriptorIndex := 600, attributes := #[] }, { accessFlags := 24, nameIndex := 1125, descriptorIndex := 18, attributes := #[] }, { accessFlags := 24, nameIndex := 1127, descriptorIndex := 18, attributes := #[] }])
  fields := #[{ name := "value", type := (.array .byte), accessFlags := 18, slot := 0, constantValue := 0 }, { name := "coder", type := .byte, accessFlags := 18, slot := 1, constantValue := 0 }, { name := "hash", type := .int, accessFlags := 2, slot := 2, constantValue := 0 }, { name := "hashIsZero", type := .boolean, accessFlags := 2, slot := 3, constantValue := 0 }, { name := "serialVersionUID", type := .long, accessFlags := 26, slot := 0, constantValue := 0 }, { name := "COMPACT_STRINGS", type := .boolean, accessFlags := 24, slot := 1, constantValue := 0 }, { name := "serialPersistentFields", type := (.array (.object "java/io/ObjectStreamField")), accessFlags := 26, slot := 2, constantValue := 0 }, { name := "REPL", type := .char, accessFlags := 26, slot := 3, constantValue := 0 }, { name := "CASE_INSENSITIVE_ORDER", type := (.object "java/util/Comparator"), accessFlags := 25, slot := 4, constantValue := 0 }, { name := "LATIN1", type := .byte, accessFlags := 24, slot := 5, constantValue := 0 }, { name := "UTF16", type := .byte, accessFlags := 24, slot := 6, constantValue := 0 }]
  methods := #[k8m0]
  instanceTypes := #[(.array .byte), .byte, .int, .boolean]
  staticTypes := #[.long, .boolean, (.array (.object "java/io/ObjectStreamField")), .char, (.object "java/util/Comparator"), .byte, .byte]
  resolved := Array.replicate 1451 none
  statics := none }

def pool9 : Array CpInfo := pool [(2, .class_ 4), (1, u "java/lang/Object"), (0, u "<init>"), (0, u "()V"), (1, .class_ 10), (1, u "com/example/narrow_view/narrowview/TagDefaults"), (0, u "given"), (0, u "[I"), (4, u "prefixUris"), (0, u "[Ljava/lang/String;"), (2, u "list"), (0, u "Lcom/example/narrow_view/narrowview/DocumentType$AttributeList;"), (2, u "givenCount"), (0, u "I"), (44, u "byNamespace"), (34, .class_ 108), (1, u "com/example/narrow_view/narrowview/TagDefaults$Target")] 26

def k9m0 : Method := { name := "<init>", desc := "()V", sig := { parameters := [], returnType := none }, accessFlags := 0, code := none }
/-- com/example/narrow_view/narrowview/TagDefaults -/
def k9 : Class := { plain "com/example/narrow_view/narrowview/TagDefaults" (some 0) with
  accessFlags := 48
  interfaces := #[]
  cf := some (fileOf pool9 8 #[.nestMembers #[106]] #[{ accessFlags := 0, nameIndex := 5, descriptorIndex := 6, attributes := #[] }] 48 2 #[] #[{ accessFlags := 2, nameIndex := 21, descriptorIndex := 22, attributes := #[] }, { accessFlags := 2, nameIndex := 11, descriptorIndex := 12, attributes := #[] }, { accessFlags := 2, nameIndex := 25, descriptorIndex := 26, attributes := #[] }, { accessFlags := 2, nameIndex := 17, descriptorIndex := 18, attributes := #[] }, { accessFlags := 2, nameIndex := 71, descriptorIndex := 12, attributes := #[] }])
  fields := #[{ name := "list", type := (.object "com/example/narrow_view/narrowview/DocumentType$AttributeList"), accessFlags := 2, slot := 0, constantValue := 0 }, { name := "given", type := (.array .int), accessFlags := 2, slot := 1, constantValue := 0 }, { name := "givenCount", type := .int, accessFlags := 2, slot := 2, constantValue := 0 }, { name := "prefixUris", type := (.array (.object "java/lang/String")), accessFlags := 2, slot := 3, constantValue := 0 }, { name := "byNamespace", type := (.array .int), accessFlags := 2, slot := 4, constantValue := 0 }]
  methods := #[k9m0]
  instanceTypes := #[(.object "com/example/narrow_view/narrowview/DocumentType$AttributeList"), (.array .int), .int, (.array (.object "java/lang/String")), (.array .int)]
  staticTypes := #[]
  resolved := Array.replicate 135 none
  statics := none }

def pool10 : Array CpInfo := pool [(1, .methodref 2 3), (0, .class_ 4), (0, .nameAndType 5 6), (0, u "java/lang/Object"), (0, u "<init>"), (0, u "()V"), (0, .fieldref 8 9), (0, .class_ 10), (0, .nameAndType 11 12), (0, u "com/example/narrow_view/narrowview/CharBuilder"), (0, u "chars"), (0, u "[C"), (2, u "length"), (0, u "I")] 62

def k10c0 : Code := { maxStack := 2, maxLocals := 1, code := prog_8_method_1_code, exceptionTable := #[], attributes := #[] }
def k10m0 : Method := { name := "<init>", desc := "()V", sig := { parameters := [], returnType := none }, accessFlags := 0, code := some k10c0 }
/-- com/example/narrow_view/narrowview/CharBuilder -/
def k10 : Class := { plain "com/example/narrow_view/narrowview/CharBuilder" (some 0) with
  accessFlags := 48
  interfaces := #[]
  cf := some (fileOf pool10 8 #[] #[{ accessFlags := 0, nameIndex := 5, descriptorIndex := 6, attributes := #[] }] 48 2 #[] #[{ accessFlags := 2, nameIndex := 11, descriptorIndex := 12, attributes := #[] }, { accessFlags := 2, nameIndex := 15, descriptorIndex := 16, attributes := #[] }])
  fields := #[{ name := "chars", type := (.array .char), accessFlags := 2, slot := 0, constantValue := 0 }, { name := "length", type := .int, accessFlags := 2, slot := 1, constantValue := 0 }]
  methods := #[k10m0]
  instanceTypes := #[(.array .char), .int]
  staticTypes := #[]
  resolved := Array.replicate 79 none
  statics := none }

def pool11 : Array CpInfo := pool [(1, .class_ 2), (0, u "com/example/narrow_view/narrowview/TagDefaults$Target"), (0, .class_ 4), (0, u "java/lang/Object"), (5, .class_ 11), (0, u "com/example/narrow_view/narrowview/TagDefaults")] 2

/-- com/example/narrow_view/narrowview/TagDefaults$Target -/
def k11 : Class := { plain "com/example/narrow_view/narrowview/TagDefaults$Target" (some 0) with
  accessFlags := 1536
  interfaces := #[]
  cf := some (fileOf pool11 1 #[.nestHost 10] #[] 1536 3 #[] #[])
  fields := #[]
  methods := #[]
  instanceTypes := #[]
  staticTypes := #[]
  resolved := Array.replicate 14 none
  statics := none }

def pool12 : Array CpInfo := pool [(1, .fieldref 2 3), (0, .class_ 4), (0, .nameAndType 5 6), (0, u "com/example/narrow_view/narrowview/StartTags$1"), (0, u "this$0"), (0, u "Lcom/example/narrow_view/narrowview/StartTags;"), (0, .methodref 8 9), (0, .class_ 10), (0, .nameAndType 11 12), (0, u "java/lang/Object"), (0, u "<init>"), (0, u "()V"), (1, .class_ 16), (1, u "com/example/narrow_view/narrowview/StartTags"), (21, .class_ 39), (0, u "com/example/narrow_view/narrowview/TagDefaults$Target"), (0, u "(Lcom/example/narrow_view/narrowview/StartTags;)V")] 13

def k12c0 : Code := { maxStack := 2, maxLocals := 2, code := prog_64_method_1_code, exceptionTable := #[], attributes := #[] }
def k12m0 : Method := { name := "<init>", desc := "(Lcom/example/narrow_view/narrowview/StartTags;)V", sig := { parameters := [(.object "com/example/narrow_view/narrowview/StartTags")], returnType := none }, accessFlags := 0, code := some k12c0 }
/-- com/example/narrow_view/narrowview/StartTags$1 -/
def k12 : Class := { plain "com/example/narrow_view/narrowview/StartTags$1" (some 0) with
  accessFlags := 32
  interfaces := #[11]
  cf := some (fileOf pool12 2 #[.nestHost 14] #[{ accessFlags := 0, nameIndex := 11, descriptorIndex := 40, attributes := #[] }] 32 8 #[38] #[{ accessFlags := 4112, nameIndex := 5, descriptorIndex := 6, attributes := #[] }])
  fields := #[{ name := "this$0", type := (.object "com/example/narrow_view/narrowview/StartTags"), accessFlags := 4112, slot := 0, constantValue := 0 }]
  methods := #[k12m0]
  instanceTypes := #[(.object "com/example/narrow_view/narrowview/StartTags")]
  staticTypes := #[]
  resolved := Array.replicate 54 none
  statics := none }

def pool13 : Array CpInfo := pool [(1, .class_ 2), (0, u "java/lang/Math"), (1, .class_ 6), (1, u "java/lang/Object"), (0, u "<init>"), (0, u "()V"), (89, .class_ 100), (1, u "java/lang/Math$RandomNumberGeneratorHolder"), (71, u "negativeZeroFloatBits"), (0, u "J"), (2, u "negativeZeroDoubleBits"), (24, u "min"), (43, u "$assertionsDisabled"), (0, u "Z"), (88, u "(II)I"), (2, u "twoToTheDoubleScaleDown"), (0, u "D"), (4, u "twoToTheDoubleScaleUp"), (9, u "E"), (3, u "PI"), (2, u "TAU"), (2, u "DEGREES_TO_RADIANS"), (0, u "RADIANS_TO_DEGREES")] 94

def k13m0 : Method := { name := "<init>", desc := "()V", sig := { parameters := [], returnType := none }, accessFlags := 2, code := none }
def k13c1 : Code := { maxStack := 2, maxLocals := 2, code := jdk_29_method_69_code, exceptionTable := #[], attributes := #[] }
def k13m1 : Method := { name := "min", desc := "(II)I", sig := { parameters := [.int, .int], returnType := some .int }, accessFlags := 9, code := some k13c1 }
/-- java/lang/Math -/
def k13 : Class := { plain "java/lang/Math" (some 0) with
  accessFlags := 49
  interfaces := #[]
  cf := some (fileOf pool13 1 #[.nestMembers #[98]] #[{ accessFlags := 2, nameIndex := 7, descriptorIndex := 8, attributes := #[] }, { accessFlags := 9, nameIndex := 201, descriptorIndex := 335, attributes := #[] }] 49 4 #[] #[{ accessFlags := 25, nameIndex := 354, descriptorIndex := 339, attributes := #[] }, { accessFlags := 25, nameIndex := 358, descriptorIndex := 339, attributes := #[] }, { accessFlags := 25, nameIndex := 361, descriptorIndex := 339, attributes := #[] }, { accessFlags := 26, nameIndex := 364, descriptorIndex := 339, attributes := #[] }, { accessFlags := 26, nameIndex := 365, descriptorIndex := 339, attributes := #[] }, { accessFlags := 26, nameIndex := 172, descriptorIndex := 173, attributes := #[] }, { accessFlags := 26, nameIndex := 176, descriptorIndex := 173, attributes := #[] }, { accessFlags := 8, nameIndex := 344, descriptorIndex := 339, attributes := #[] }, { accessFlags := 8, nameIndex := 338, descriptorIndex := 339, attributes := #[] }, { accessFlags := 4120, nameIndex := 245, descriptorIndex := 246, attributes := #[] }])
  fields := #[{ name := "E", type := .double, accessFlags := 25, slot := 0, constantValue := 0 }, { name := "PI", type := .double, accessFlags := 25, slot := 1, constantValue := 0 }, { name := "TAU", type := .double, accessFlags := 25, slot := 2, constantValue := 0 }, { name := "DEGREES_TO_RADIANS", type := .double, accessFlags := 26, slot := 3, constantValue := 0 }, { name := "RADIANS_TO_DEGREES", type := .double, accessFlags := 26, slot := 4, constantValue := 0 }, { name := "negativeZeroFloatBits", type := .long, accessFlags := 26, slot := 5, constantValue := 0 }, { name := "negativeZeroDoubleBits", type := .long, accessFlags := 26, slot := 6, constantValue := 0 }, { name := "twoToTheDoubleScaleUp", type := .double, accessFlags := 8, slot := 7, constantValue := 0 }, { name := "twoToTheDoubleScaleDown", type := .double, accessFlags := 8, slot := 8, constantValue := 0 }, { name := "$assertionsDisabled", type := .boolean, accessFlags := 4120, slot := 9, constantValue := 0 }]
  methods := #[k13m0, k13m1]
  instanceTypes := #[]
  staticTypes := #[.double, .double, .double, .double, .double, .long, .long, .double, .double, .boolean]
  resolved := Array.replicate 460 none
  statics := none }

def pool14 : Array CpInfo := pool [(2, .class_ 4), (1, u "java/lang/Object"), (0, u "<init>"), (0, u "()V"), (1, .class_ 10), (1, u "java/lang/System"), (0, u "allowSecurityManager"), (0, u "I"), (16, u "cons"), (0, u "Ljava/io/Console;"), (77, .class_ 110), (1, u "java/lang/System$CallersHolder"), (43, u "initialErrStream"), (0, u "Ljava/io/PrintStream;"), (19, u "security"), (0, u "Ljava/lang/SecurityManager;"), (31, .class_ 209), (0, u "java/lang/System$1"), (7, u "props"), (0, u "Ljava/util/Properties;"), (2, u "lineSeparator"), (0, u "Ljava/lang/String;"), (96, .class_ 321), (1, u "java/lang/System$LoggerFinder"), (5, .class_ 328), (0, u "java/lang/System$Logger"), (67, u "err"), (2, u "out"), (91, u "notSupportedJnuEncoding"), (15, u "in"), (17, u "initialIn"), (0, u "Ljava/io/InputStream;"), (35, u "bootLayer"), (0, u "Ljava/lang/ModuleLayer;"), (99, .class_ 664), (0, u "java/lang/System$2"), (9, u "NEVER"), (2, u "MAYBE"), (49, u "arraycopy"), (0, u "(Ljava/lang/Object;ILjava/lang/Object;II)V"), (72, .class_ 802), (0, u "java/lang/System$Logger$Level")] 31

def k14m0 : Method := { name := "<init>", desc := "()V", sig := { parameters := [], returnType := none }, accessFlags := 2, code := none }
def k14m1 : Method := { name := "arraycopy", desc := "(Ljava/lang/Object;ILjava/lang/Object;II)V", sig := { parameters := [(.object "java/lang/Object"), .int, (.object "java/lang/Object"), .int, .int], returnType := none }, accessFlags := 265, code := none }
/-- java/lang/System -/
def k14 : Class := { plain "java/lang/System" (some 0) with
  accessFlags := 49
  interfaces := #[]
  cf := some (fileOf pool14 8 #[.nestMembers #[319, 327, 801, 108, 663, 208]] #[{ accessFlags := 2, nameIndex := 5, descriptorIndex := 6, attributes := #[] }, { accessFlags := 265, nameIndex := 727, descriptorIndex := 728, attributes := #[] }] 49 2 #[] #[{ accessFlags := 25, nameIndex := 507, descriptorIndex := 526, attributes := #[] }, { accessFlags := 25, nameIndex := 399, descriptorIndex := 155, attributes := #[] }, { accessFlags := 25, nameIndex := 396, descriptorIndex := 155, attributes := #[] }, { accessFlags := 10, nameIndex := 525, descriptorIndex := 526, attributes := #[] }, { accessFlags := 26, nameIndex := 674, descriptorIndex := 12, attributes := #[] }, { accessFlags := 26, nameIndex := 677, descriptorIndex := 12, attributes := #[] }, { accessFlags := 10, nameIndex := 11, descriptorIndex := 12, attributes := #[] }, { accessFlags := 74, nameIndex := 175, descriptorIndex := 176, attributes := #[] }, { accessFlags := 10, nameIndex := 491, descriptorIndex := 222, attributes := #[] }, { accessFlags := 74, nameIndex := 29, descriptorIndex := 30, attributes := #[] }, { accessFlags := 74, nameIndex := 154, descriptorIndex := 155, attributes := #[] }, { accessFlags := 10, nameIndex := 217, descriptorIndex := 218, attributes := #[] }, { accessFlags := 10, nameIndex := 221, descriptorIndex := 222, attributes := #[] }, { accessFlags := 8, nameIndex := 562, descriptorIndex := 563, attributes := #[] }])
  fields := #[{ name := "in", type := (.object "java/io/InputStream"), accessFlags := 25, slot := 0, constantValue := 0 }, { name := "out", type := (.object "java/io/PrintStream"), accessFlags := 25, slot := 1, constantValue := 0 }, { name := "err", type := (.object "java/io/PrintStream"), accessFlags := 25, slot := 2, constantValue := 0 }, { name := "initialIn", type := (.object "java/io/InputStream"), accessFlags := 10, slot := 3, constantValue := 0 }, { name := "NEVER", type := .int, accessFlags := 26, slot := 4, constantValue := 0 }, { name := "MAYBE", type := .int, accessFlags := 26, slot := 5, constantValue := 0 }, { name := "allowSecurityManager", type := .int, accessFlags := 10, slot := 6, constantValue := 0 }, { name := "security", type := (.object "java/lang/SecurityManager"), accessFlags := 74, slot := 7, constantValue := 0 }, { name := "notSupportedJnuEncoding", type := (.object "java/lang/String"), accessFlags := 10, slot := 8, constantValue := 0 }, { name := "cons", type := (.object "java/io/Console"), accessFlags := 74, slot := 9, constantValue := 0 }, { name := "initialErrStream", type := (.object "java/io/PrintStream"), accessFlags := 74, slot := 10, constantValue := 0 }, { name := "props", type := (.object "java/util/Properties"), accessFlags := 10, slot := 11, constantValue := 0 }, { name := "lineSeparator", type := (.object "java/lang/String"), accessFlags := 10, slot := 12, constantValue := 0 }, { name := "bootLayer", type := (.object "java/lang/ModuleLayer"), accessFlags := 8, slot := 13, constantValue := 0 }]
  methods := #[k14m0, k14m1]
  instanceTypes := #[]
  staticTypes := #[(.object "java/io/InputStream"), (.object "java/io/PrintStream"), (.object "java/io/PrintStream"), (.object "java/io/InputStream"), .int, .int, .int, (.object "java/lang/SecurityManager"), (.object "java/lang/String"), (.object "java/io/Console"), (.object "java/io/PrintStream"), (.object "java/util/Properties"), (.object "java/lang/String"), (.object "java/lang/ModuleLayer")]
  resolved := Array.replicate 834 none
  statics := none }

def pool15 : Array CpInfo := pool [(1, u "java/lang/Cloneable"), (0, .class_ 1), (0, u "java/lang/Object"), (0, .class_ 3)] 3

/-- java/lang/Cloneable -/
def k15 : Class := { plain "java/lang/Cloneable" (some 0) with
  accessFlags := 1537
  interfaces := #[]
  cf := some (fileOf pool15 2 #[] #[] 1537 4 #[] #[])
  fields := #[]
  methods := #[]
  instanceTypes := #[]
  staticTypes := #[]
  resolved := Array.replicate 8 none
  statics := none }

/-- the primitive boolean -/
def k16 : Class := { plain "boolean" none with kind := .primitive 'Z', accessFlags := 0x411 }
/-- [Z -/
def k17 : Class := { plain "[Z" (some 0) with kind := .array 16 .boolean, interfaces := #[15, 3], accessFlags := 1041 }

/-- the primitive byte -/
def k18 : Class := { plain "byte" none with kind := .primitive 'B', accessFlags := 0x411 }
/-- [B -/
def k19 : Class := { plain "[B" (some 0) with kind := .array 18 .byte, interfaces := #[15, 3], accessFlags := 1041 }

/-- the primitive char -/
def k20 : Class := { plain "char" none with kind := .primitive 'C', accessFlags := 0x411 }
/-- [C -/
def k21 : Class := { plain "[C" (some 0) with kind := .array 20 .char, interfaces := #[15, 3], accessFlags := 1041 }

/-- the primitive int -/
def k22 : Class := { plain "int" none with kind := .primitive 'I', accessFlags := 0x411 }
/-- [I -/
def k23 : Class := { plain "[I" (some 0) with kind := .array 22 .int, interfaces := #[15, 3], accessFlags := 1041 }

/-- [Lcom/example/narrow_view/narrowview/TagDefaults; -/
def k24 : Class := { plain "[Lcom/example/narrow_view/narrowview/TagDefaults;" (some 0) with kind := .array 9 (.object "com/example/narrow_view/narrowview/TagDefaults"), interfaces := #[15, 3], accessFlags := 1041 }

/-- [Ljava/lang/String; -/
def k25 : Class := { plain "[Ljava/lang/String;" (some 0) with kind := .array 8 (.object "java/lang/String"), interfaces := #[15, 3], accessFlags := 1041 }

def heap : Heap := #[]
def classes : Array Class := #[k0, k1, k2, k3, k4, k5, k6, k7, k8, k9, k10, k11, k12, k13, k14, k15, k16, k17, k18, k19, k20, k21, k22, k23, k24, k25]
def interned : List (Array UInt16 × Addr) := []
def slotsUsed : Nat := 0
def theMethod : MethodId := ⟨1, 3⟩
def args0 : Array Value := #[.int 5, .int 5, .int 5]
def aboutOver (below : List Frame) : State where
  vm := { classes := classes, interned := interned.toArray }
  heap := heap
  slotsUsed := slotsUsed
  threads := #[{ frames := .invoking theMethod args0 :: below }]
def below0 : List Frame := [.native { method := ⟨0, 0⟩, args := #[] }]
def about1 : State := aboutOver below0
def p0 : Program := .bare "" "" ""
def e0 : Env := launch0.env 0 0 0
theorem w_frames : about1.frames = Frame.invoking theMethod args0 :: below0 := rfl
set_option maxRecDepth 65536 in
theorem w_args : argsFit about1.vm theMethod args0 = true := by decide +kernel
set_option maxRecDepth 65536 in
theorem w_heap : heapFits about1 = true := by decide +kernel
set_option maxRecDepth 65536 in
theorem w_runnable : about1.curStatus? = some .runnable := by decide +kernel
set_option maxRecDepth 65536 in
theorem w_alone : about1.alone = true := by decide +kernel
set_option maxRecDepth 65536 in
theorem w_named : about1.methodNamed? x = some theMethod := by decide +kernel
set_option maxRecDepth 65536 in
theorem w_hears : about1.hears theMethod below0 = true := by decide +kernel
set_option maxRecDepth 65536 in
theorem w_ripe : about1.ripe theMethod args0 below0 = true := by decide +kernel
theorem w_running : about1.status = .running := rfl
set_option maxRecDepth 65536 in
theorem w_room : about1.hasRoom e0.platform room_1 = true :=
  launch0.hasRoom_least _ room_1 (by decide +kernel) (by decide +kernel) (by decide +kernel) (by decide +kernel) (by decide +kernel) (by decide +kernel)
theorem allAtoms_all (ts : List Jvm.Cond) (a : Array Jvm.Value) (st : Jvm.State) : (allAtoms ts).before a st = ts.all (fun c => c.before a st) := by
  induction ts with
  | nil => rfl
  | cons c t ih =>
    show (Jvm.Cond.and c (allAtoms t)).before a st = _
    rw [Jvm.Cond.before_and, ih, List.all_cons]
def words1 : List Jvm.Cond := Jvm.Cond.code x code maxLocals ret :: tables_1
/-- a 'code' word, met by the world's own term for the bytes: nothing is compared byte by byte -/
theorem code_word {y : MethodName} {bytes : ByteArray} {mx : Nat} {rt : Option FieldType} {a : Array Value} {s : State} {m : MethodId} {meth : Method} {c : Code} (h1 : s.methodNamed? y = some m) (h2 : s.vm.method? m = some meth) (h3 : meth.code = some c) (h4 : c.code = bytes)
    (h5 : (c.maxLocals == mx && c.exceptionTable.isEmpty && decide (c.maxStack ≤ mostOperands) && decide (meth.sig.returnType = rt) && !meth.locks && decide (parseMethodDescriptor y.desc = some meth.sig)) = true) : (Jvm.Cond.code y bytes mx rt).before a s = true := by
  simp only [Bool.and_eq_true, beq_iff_eq, Bool.not_eq_true', decide_eq_true_eq] at h5
  obtain ⟨⟨⟨⟨⟨g1, g2⟩, g3⟩, g4⟩, g5⟩, g6⟩ := h5
  simp [Cond.before, Cond.holds, Cond.value, h1, h2, h3, h4, g1, g2, g3, g4, g5, g6]
def isCode : Jvm.Cond → Bool
  | .code _ _ _ _ => true
  | _ => false
theorem all_split {L : List Jvm.Cond} {P : Jvm.Cond → Bool} (h1 : L.all (fun c => isCode c || P c) = true) (h2 : ∀ c ∈ L.filter isCode, P c = true) : L.all P = true := by
  refine List.all_eq_true.mpr fun c hc => ?_
  have h := List.all_eq_true.mp h1 c hc
  rcases Bool.eq_false_or_eq_true (isCode c) with hi | hi
  · exact h2 c (List.mem_filter.mpr ⟨hc, hi⟩)
  · simpa [hi] using h
set_option maxRecDepth 65536 in
theorem w_c0 : (Jvm.Cond.code x code maxLocals ret).before args0 about1 = true := code_word (m := ⟨1, 3⟩) (meth := k1m3) (c := k1c3) (by decide +kernel) rfl rfl rfl (by decide +kernel)
set_option maxRecDepth 65536 in
theorem w_c1 : (Jvm.Cond.code ({ cls := "com/example/narrow_view/narrowview/StartTagsTruncatePinLaw", name := "sizeOf", desc := "(I)I" } : Jvm.MethodName) method_3_code (1 : Nat) (Option.some Jvm.ClassFile.FieldType.int)).before args0 about1 = true := code_word (m := ⟨1, 2⟩) (meth := k1m2) (c := k1c2) (by decide +kernel) rfl rfl rfl (by decide +kernel)
set_option maxRecDepth 65536 in
theorem w_c2 : (Jvm.Cond.code ({ cls := "com/example/narrow_view/narrowview/StartTags", name := "<init>", desc := "()V" } : Jvm.MethodName) prog_63_method_1_code (1 : Nat) (Option.none : Option Jvm.ClassFile.FieldType)).before args0 about1 = true := code_word (m := ⟨2, 0⟩) (meth := k2m0) (c := k2c0) (by decide +kernel) rfl rfl rfl (by decide +kernel)
set_option maxRecDepth 65536 in
theorem w_c3 : (Jvm.Cond.code ({ cls := "java/lang/Object", name := "<init>", desc := "()V" } : Jvm.MethodName) object_method_1_code (1 : Nat) (Option.none : Option Jvm.ClassFile.FieldType)).before args0 about1 = true := code_word (m := ⟨0, 0⟩) (meth := k0m0) (c := k0c0) (by decide +kernel) rfl rfl rfl (by decide +kernel)
set_option maxRecDepth 65536 in
theorem w_c4 : (Jvm.Cond.code ({ cls := "com/example/narrow_view/narrowview/CharBuilder", name := "<init>", desc := "()V" } : Jvm.MethodName) prog_8_method_1_code (1 : Nat) (Option.none : Option Jvm.ClassFile.FieldType)).before args0 about1 = true := code_word (m := ⟨10, 0⟩) (meth := k10m0) (c := k10c0) (by decide +kernel) rfl rfl rfl (by decide +kernel)
set_option maxRecDepth 65536 in
theorem w_c5 : (Jvm.Cond.code ({ cls := "com/example/narrow_view/narrowview/StartTags$1", name := "<init>", desc := "(Lcom/example/narrow_view/narrowview/StartTags;)V" } : Jvm.MethodName) prog_64_method_1_code (2 : Nat) (Option.none : Option Jvm.ClassFile.FieldType)).before args0 about1 = true := code_word (m := ⟨12, 0⟩) (meth := k12m0) (c := k12c0) (by decide +kernel) rfl rfl rfl (by decide +kernel)
set_option maxRecDepth 65536 in
theorem w_c6 : (Jvm.Cond.code ({ cls := "com/example/narrow_view/narrowview/StartTagsTruncatePinLaw", name := "fill", desc := "(Lcom/example/narrow_view/narrowview/StartTags;Lcom/example/narrow_view/narrowview/StartTags;I)V" } : Jvm.MethodName) method_2_code (3 : Nat) (Option.none : Option Jvm.ClassFile.FieldType)).before args0 about1 = true := code_word (m := ⟨1, 1⟩) (meth := k1m1) (c := k1c1) (by decide +kernel) rfl rfl rfl (by decide +kernel)
set_option maxRecDepth 65536 in
theorem w_c7 : (Jvm.Cond.code ({ cls := "com/example/narrow_view/narrowview/StartTags", name := "truncate", desc := "(I)V" } : Jvm.MethodName) prog_63_method_5_code (2 : Nat) (Option.none : Option Jvm.ClassFile.FieldType)).before args0 about1 = true := code_word (m := ⟨2, 3⟩) (meth := k2m3) (c := k2c3) (by decide +kernel) rfl rfl rfl (by decide +kernel)
set_option maxRecDepth 65536 in
theorem w_c8 : (Jvm.Cond.code ({ cls := "com/example/narrow_view/narrowview/StartTags", name := "size", desc := "()I" } : Jvm.MethodName) prog_63_method_4_code (1 : Nat) (Option.some Jvm.ClassFile.FieldType.int)).before args0 about1 = true := code_word (m := ⟨2, 2⟩) (meth := k2m2) (c := k2c2) (by decide +kernel) rfl rfl rfl (by decide +kernel)
set_option maxRecDepth 65536 in
theorem w_c9 : (Jvm.Cond.code ({ cls := "java/lang/Math", name := "min", desc := "(II)I" } : Jvm.MethodName) jdk_29_method_69_code (2 : Nat) (Option.some Jvm.ClassFile.FieldType.int)).before args0 about1 = true := code_word (m := ⟨13, 1⟩) (meth := k13m1) (c := k13c1) (by decide +kernel) rfl rfl rfl (by decide +kernel)
set_option maxRecDepth 65536 in
theorem w_c10 : (Jvm.Cond.code ({ cls := "com/example/narrow_view/narrowview/StartTags", name := "add", desc := "(Lcom/example/narrow_view/narrowview/StartTags;I)I" } : Jvm.MethodName) prog_63_method_3_code (10 : Nat) (Option.some Jvm.ClassFile.FieldType.int)).before args0 about1 = true := code_word (m := ⟨2, 1⟩) (meth := k2m1) (c := k2c1) (by decide +kernel) rfl rfl rfl (by decide +kernel)
set_option maxRecDepth 65536 in
theorem w_c11 : (Jvm.Cond.code ({ cls := "com/example/narrow_view/narrowview/StartTags", name := "namespaceCount", desc := "(I)I" } : Jvm.MethodName) prog_63_method_10_code (2 : Nat) (Option.some Jvm.ClassFile.FieldType.int)).before args0 about1 = true := code_word (m := ⟨2, 4⟩) (meth := k2m4) (c := k2c4) (by decide +kernel) rfl rfl rfl (by decide +kernel)
set_option maxRecDepth 65536 in
theorem w_c12 : (Jvm.Cond.code ({ cls := "com/example/narrow_view/narrowview/StartTags", name := "ownAttributeCount", desc := "(I)I" } : Jvm.MethodName) prog_63_method_21_code (2 : Nat) (Option.some Jvm.ClassFile.FieldType.int)).before args0 about1 = true := code_word (m := ⟨2, 5⟩) (meth := k2m5) (c := k2c5) (by decide +kernel) rfl rfl rfl (by decide +kernel)
set_option maxRecDepth 65536 in
theorem w_c13 : (Jvm.Cond.code ({ cls := "com/example/narrow_view/narrowview/StartTags", name := "copyValue", desc := "([CII)V" } : Jvm.MethodName) prog_63_method_26_code (4 : Nat) (Option.none : Option Jvm.ClassFile.FieldType)).before args0 about1 = true := code_word (m := ⟨2, 7⟩) (meth := k2m7) (c := k2c7) (by decide +kernel) rfl rfl rfl (by decide +kernel)
set_option maxRecDepth 65536 in
theorem w_c14 : (Jvm.Cond.code ({ cls := "com/example/narrow_view/narrowview/StartTags", name := "keepDefaults", desc := "(ILcom/example/narrow_view/narrowview/TagDefaults;)V" } : Jvm.MethodName) prog_63_method_22_code (3 : Nat) (Option.none : Option Jvm.ClassFile.FieldType)).before args0 about1 = true := code_word (m := ⟨2, 6⟩) (meth := k2m6) (c := k2c6) (by decide +kernel) rfl rfl rfl (by decide +kernel)
def codes1 : List Jvm.Cond := [Jvm.Cond.code x code maxLocals ret, Jvm.Cond.code ({ cls := "com/example/narrow_view/narrowview/StartTagsTruncatePinLaw", name := "sizeOf", desc := "(I)I" } : Jvm.MethodName) method_3_code (1 : Nat) (Option.some Jvm.ClassFile.FieldType.int), Jvm.Cond.code ({ cls := "com/example/narrow_view/narrowview/StartTags", name := "<init>", desc := "()V" } : Jvm.MethodName) prog_63_method_1_code (1 : Nat) (Option.none : Option Jvm.ClassFile.FieldType), Jvm.Cond.code ({ cls := "java/lang/Object", name := "<init>", desc := "()V" } : Jvm.MethodName) object_method_1_code (1 : Nat) (Option.none : Option Jvm.ClassFile.FieldType), Jvm.Cond.code ({ cls := "com/example/narrow_view/narrowview/CharBuilder", name := "<init>", desc := "()V" } : Jvm.MethodName) prog_8_method_1_code (1 : Nat) (Option.none : Option Jvm.ClassFile.FieldType), Jvm.Cond.code ({ cls := "com/example/narrow_view/narrowview/StartTags$1", name := "<init>", desc := "(Lcom/example/narrow_view/narrowview/StartTags;)V" } : Jvm.MethodName) prog_64_method_1_code (2 : Nat) (Option.none : Option Jvm.ClassFile.FieldType), Jvm.Cond.code ({ cls := "com/example/narrow_view/narrowview/StartTagsTruncatePinLaw", name := "fill", desc := "(Lcom/example/narrow_view/narrowview/StartTags;Lcom/example/narrow_view/narrowview/StartTags;I)V" } : Jvm.MethodName) method_2_code (3 : Nat) (Option.none : Option Jvm.ClassFile.FieldType), Jvm.Cond.code ({ cls := "com/example/narrow_view/narrowview/StartTags", name := "truncate", desc := "(I)V" } : Jvm.MethodName) prog_63_method_5_code (2 : Nat) (Option.none : Option Jvm.ClassFile.FieldType), Jvm.Cond.code ({ cls := "com/example/narrow_view/narrowview/StartTags", name := "size", desc := "()I" } : Jvm.MethodName) prog_63_method_4_code (1 : Nat) (Option.some Jvm.ClassFile.FieldType.int), Jvm.Cond.code ({ cls := "java/lang/Math", name := "min", desc := "(II)I" } : Jvm.MethodName) jdk_29_method_69_code (2 : Nat) (Option.some Jvm.ClassFile.FieldType.int), Jvm.Cond.code ({ cls := "com/example/narrow_view/narrowview/StartTags", name := "add", desc := "(Lcom/example/narrow_view/narrowview/StartTags;I)I" } : Jvm.MethodName) prog_63_method_3_code (10 : Nat) (Option.some Jvm.ClassFile.FieldType.int), Jvm.Cond.code ({ cls := "com/example/narrow_view/narrowview/StartTags", name := "namespaceCount", desc := "(I)I" } : Jvm.MethodName) prog_63_method_10_code (2 : Nat) (Option.some Jvm.ClassFile.FieldType.int), Jvm.Cond.code ({ cls := "com/example/narrow_view/narrowview/StartTags", name := "ownAttributeCount", desc := "(I)I" } : Jvm.MethodName) prog_63_method_21_code (2 : Nat) (Option.some Jvm.ClassFile.FieldType.int), Jvm.Cond.code ({ cls := "com/example/narrow_view/narrowview/StartTags", name := "copyValue", desc := "([CII)V" } : Jvm.MethodName) prog_63_method_26_code (4 : Nat) (Option.none : Option Jvm.ClassFile.FieldType), Jvm.Cond.code ({ cls := "com/example/narrow_view/narrowview/StartTags", name := "keepDefaults", desc := "(ILcom/example/narrow_view/narrowview/TagDefaults;)V" } : Jvm.MethodName) prog_63_method_22_code (3 : Nat) (Option.none : Option Jvm.ClassFile.FieldType)]
set_option maxRecDepth 65536 in
theorem codes_eq : words1.filter isCode = codes1 := rfl
theorem w_codes : ∀ c ∈ words1.filter isCode, c.before args0 about1 = true := by
  rw [codes_eq]
  intro c hc
  simp only [codes1, List.mem_cons, List.not_mem_nil, or_false] at hc
  rcases hc with rfl | rfl | rfl | rfl | rfl | rfl | rfl | rfl | rfl | rfl | rfl | rfl | rfl | rfl | rfl
  · exact w_c0
  · exact w_c1
  · exact w_c2
  · exact w_c3
  · exact w_c4
  · exact w_c5
  · exact w_c6
  · exact w_c7
  · exact w_c8
  · exact w_c9
  · exact w_c10
  · exact w_c11
  · exact w_c12
  · exact w_c13
  · exact w_c14
set_option maxRecDepth 65536 in
theorem w_t1 : (words1.take 24).all (fun c => isCode c || c.before args0 about1) = true := by decide +kernel
set_option maxRecDepth 65536 in
theorem w_t2 : ((words1.drop 24).take 24).all (fun c => isCode c || c.before args0 about1) = true := by decide +kernel
set_option maxRecDepth 65536 in
theorem w_t3 : (((words1.drop 24).drop 24).take 24).all (fun c => isCode c || c.before args0 about1) = true := by decide +kernel
set_option maxRecDepth 65536 in
theorem w_t4 : ((((words1.drop 24).drop 24).drop 24).take 24).all (fun c => isCode c || c.before args0 about1) = true := by decide +kernel
set_option maxRecDepth 65536 in
theorem w_t5 : (((((words1.drop 24).drop 24).drop 24).drop 24).take 24).all (fun c => isCode c || c.before args0 about1) = true := by decide +kernel
set_option maxRecDepth 65536 in
theorem w_t6 : (((((words1.drop 24).drop 24).drop 24).drop 24).drop 24).all (fun c => isCode c || c.before args0 about1) = true := by decide +kernel
theorem w_tables : (allAtoms (Jvm.Cond.code x code maxLocals ret :: tables_1)).before args0 about1 = true := by
  rw [allAtoms_all]
  show words1.all (fun c => c.before args0 about1) = true
  refine all_split ?_ w_codes
  rw [← List.take_append_drop 24 words1, List.all_append, w_t1, ← List.take_append_drop 24 (words1.drop 24), List.all_append, w_t2, ← List.take_append_drop 24 ((words1.drop 24).drop 24), List.all_append, w_t3, ← List.take_append_drop 24 (((words1.drop 24).drop 24).drop 24), List.all_append, w_t4, ← List.take_append_drop 24 ((((words1.drop 24).drop 24).drop 24).drop 24), List.all_append, w_t5, w_t6]
  rfl
set_option maxRecDepth 65536 in
theorem w_case : (Jvm.Cond.and given_1 narrow_1).before args0 about1 = true := by decide +kernel
theorem w_applies : (headSpec (Jvm.Cond.code x code maxLocals ret :: tables_1) room_1).applies x e0.platform about1 = true :=
  (Spec.applies_iff w_frames).mpr ⟨w_running, w_runnable, w_alone, w_named, w_hears, w_ripe, w_room, w_tables⟩
theorem atStart : AtStart classFile x code maxLocals ret World_1 tables_1 room_1 Calls_1 rest_1 Pre_1 launch0 p0 e0 about1 theMethod args0 below0 :=
  ⟨lists_1, trivial, launch0.admits_env _ _ _, launch0.least_env, fairChoices_fair.cas, fairChoices_fair.clock, w_frames, w_args, w_heap, w_applies, trivial, trivial, w_case⟩
end start1
theorem witness_1 : WitnessClaimed_1 := ⟨start1.p0, start1.e0, start1.about1, start1.theMethod, start1.args0, start1.below0, start1.atStart⟩
end Jvm.Pilot.@@N@@
