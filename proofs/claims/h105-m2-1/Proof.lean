import JvmDerived
import JvmDerived.Pilot.@@N@@Statement
import JvmDerived.Pilot.@@N@@Code
set_option linter.unusedVariables false
set_option linter.unusedSimpArgs false
namespace Jvm.RoadKit
open Sem ClassFile Op Lib Jvm.Stand Jvm.Free Jvm.LawKit
section New
variable {p : Program} {l : Launch} {e : Env} {R : Room} {s : State} {m : MethodId} {args : Array Value} {below : List Frame} {meth : Method} {c : Code} {T : State} {locs : List Loc} {cells slots : Nat}
theorem retI (X : Stand p l e R s m args below meth c T locs cells slots) (hx : p.tables.exec = Jvm.exec) {pc : Nat} {Ls : Array Slot} {z : Int32} {rest : List Value} (hret : meth.sig.returnType = some .int) (hd : decode c.code pc = .ok (.ireturn, 1)) {fs : List Frame}
    (hl : ∀ (f : JFrame) (acts : List Action), f.method = m → f.locked = none → f.entered = [] → (doReturn e (T.setTop f) acts (some (.int z))).1 = T.setFrames fs) : Steps p.tables e below (T.setTop (mkF m pc Ls (.int z :: rest))) (T.setFrames fs) := by
  have hm' : T.vm.method? m = some meth := X.method'
  have hn : narrow .int (.int z) = .int z := rfl
  show Steps p.tables e below (T.setTop { method := m, pc := pc, locals := Ls, stack := _ :: rest, locked := none }) _
  jvm_step X.here [X.here.top, hx, hd, hm', hret, hn]
  first | (intro acts; rw [hl _ acts rfl rfl rfl]) | rw [hl _ _ rfl rfl rfl]
  exact Steps.refl _
end New
end Jvm.RoadKit
namespace Jvm.Pilot.@@N@@
open Jvm Jvm.ClassFile Sem Op Lib Jvm.Free Jvm.Stand Jvm.LawKit Jvm.RoadKit Bundle Jvm.Pilot.@@N@@.Jvm.D
/-! OWN KIT: a walk as one forward chain. OwF: from frame f at T the run ends, and D says how. OwC: the setting of a body. OwCon: a body's contract. -/
section OwnKit
variable {p : Program} {l : Launch} {e : Env} {R : Room} {s : State} {m : MethodId} {args : Array Value} {below : List Frame} {meth : Method} {c : Code} {T : State} {locs : List Loc} {cells slots : Nat} {Z : State} {a0 : Array Value} {h : Heap}
variable {own nm : String} {bytes : ByteArray} {maxL : Nat} {ret : Option FieldType} {D : State → Outcome → Prop} {pc pc' : Nat} {Ls : Array Slot} {r : List Value}
def OwF (p : Program) (e : Env) (below : List Frame) (D : State → Outcome → Prop) (T : State) (f : JFrame) : Prop := ∃ t o, Steps p.tables e below (T.setTop f) t ∧ D t o
def OwC (p : Program) (Z s : State) (m : MethodId) (meth : Method) (c : Code) (own nm : String) (bytes : ByteArray) (maxL : Nat) (ret : Option FieldType) : Prop :=
  p.tables.exec = Jvm.exec ∧ c.code = bytes ∧ c.maxLocals = maxL ∧ s.vm.findClass own = some m.cls ∧ meth.name = nm ∧ meth.sig.returnType = ret ∧ meth.locks = false ∧ Z.Warmed39 s.vm
def OwD (s : State) (below : List Frame) (Q : Option Value → Heap → List Loc → Prop) (kc ks : Nat) (t : State) (o : Outcome) : Prop :=
  t.status = .running ∧ Ended t below o ∧ ∃ v L, o = .returned v ∧ Q v t.heap L ∧ FrameEnd s o t L kc ks
def OwCon (l : Launch) (y : MethodName) (bytes : ByteArray) (maxL : Nat) (ret : Option FieldType) (rm : Room) (Z : State) (as' : Array Value) (h : Heap) (Q : Option Value → Heap → List Loc → Prop) : Prop :=
  ∀ ws, MetFree l y (head1 (Jvm.Cond.code y bytes maxL ret :: ws) rm) (fun a U => a = as' ∧ Z.Warmed39 U.vm ∧ U.heap = h) (fun _ _ _ _ _ => True) (fun _ U o U' => ∃ v L, o = .returned v ∧ Q v U'.heap L ∧ FrameEnd U o U' L rm.cells rm.slots)
theorem OwF.st {T' : State} {f f' : JFrame} (h : ∀ t, Steps p.tables e below (T'.setTop f') t → Steps p.tables e below (T.setTop f) t) (k : OwF p e below D T' f') : OwF p e below D T f := by
  obtain ⟨t, o, q, d⟩ := k; exact ⟨t, o, h t q, d⟩
theorem OwCon.of {y : MethodName} {rm : Room} {as' : Array Value} {Q : Option Value → Heap → List Loc → Prop} (hpl : plainFor y = true) {Ls : Array Slot} (hent : ∀ m, entryFrame m as' maxL = mkF m 0 Ls [])
    (body : ∀ (p : Program) (e : Env) (s : State) (m : MethodId) (below : List Frame) (meth : Method) (c : Code) (s₁ : State), OwC p Z s m meth c y.cls y.name bytes maxL ret → Stand p l e rm s m as' below meth c s₁ [] 0 0 → s₁.heap = h → OwF p e below (OwD s below Q rm.cells rm.slots) s₁ (mkF m 0 Ls [])) :
    OwCon l y bytes maxL ret rm Z as' h Q := by
  intro ws
  refine MetFree.of_bodySF hpl hisR ?_
  intro p e s m args below meth c s₁ Bd hml0 hP hK
  obtain ⟨rfl, hZ, hh⟩ := hP
  have X0 : Stand p l e rm s m args below meth c s₁ [] 0 0 := Stand.of_body Bd
  obtain ⟨t, o, h1, h2, h3, h4⟩ := body p e s m below meth c s₁ ⟨Bd.exec, Bd.bytes, hml0, findClass_of_methodNamed Bd.named, (name_of_methodNamed Bd.named Bd.method).1, Bd.returns, BodyLoose.notSynchronized Bd, hZ⟩ X0 (by rw [← hh, Bd.state]; rfl)
  exact ⟨t, o, castTop (hent m) h1, h2, h3, h4⟩
/-- a contract may say less -/
theorem OwCon.mono {y : MethodName} {rm : Room} {as' : Array Value} {Q Q' : Option Value → Heap → List Loc → Prop} (M : OwCon l y bytes maxL ret rm Z as' h Q) (hq : ∀ v h' L, Q v h' L → Q' v h' L) : OwCon l y bytes maxL ret rm Z as' h Q' := by
  intro ws p e ha hc hk s m args below hf happ hP hK
  obtain ⟨n, o, h1, h2, h3, v, L, h4, h5, h6⟩ := M ws p e ha hc hk s m args below hf happ hP hK
  exact ⟨n, o, h1, h2, h3, v, L, h4, hq _ _ _ h5, h6⟩
/-- two roads that meet -/
theorem ow_join {f f' : JFrame} (X : Stand p l e R s m args below meth c T locs cells slots) (eT : T.heap = h) (A : ∀ D : State → Outcome → Prop, (∀ T', Stand p l e R s m args below meth c T' locs cells slots → T'.heap = h → OwF p e below D T' f') → OwF p e below D T f)
    (k : ∀ T', Stand p l e R s m args below meth c T' locs cells slots → T'.heap = h → OwF p e below D T' f') : OwF p e below D T f := A D k
/-- a long or nothing, in two places -/
def OwTwo (x y : Slot) : Prop := (x = .unset ∧ y = .unset) ∨ ∃ v : Int64, x = .val (.long v) ∧ y = .second
/-- two roads that meet, with locals that are read no more -/
theorem ow_joinL {f : JFrame} {r' : List Value} {P : Array Slot → Prop} (X : Stand p l e R s m args below meth c T locs cells slots) (eT : T.heap = h) (A : ∀ D : State → Outcome → Prop, (∀ Ls' T', P Ls' → Stand p l e R s m args below meth c T' locs cells slots → T'.heap = h → OwF p e below D T' (mkF m pc' Ls' r')) → OwF p e below D T f)
    (k : ∀ Ls' T', P Ls' → Stand p l e R s m args below meth c T' locs cells slots → T'.heap = h → OwF p e below D T' (mkF m pc' Ls' r')) : OwF p e below D T f := A D k
/-! returns -/
theorem ow_retI {Q : Option Value → Heap → List Loc → Prop} {kc ks : Nat} {z : Int32} (C : OwC p Z s m meth c own nm bytes maxL (some .int)) (X : Stand p l e R s m args below meth c T locs cells slots) (hd : decode bytes pc = .ok (.ireturn, 1)) (hc : cells ≤ kc) (hs : slots ≤ ks)
    (hQ : Q (some (.int z)) T.heap locs) : OwF p e below (OwD s below Q kc ks) T (mkF m pc Ls (.int z :: r)) := by
  obtain ⟨hx, hby, -, -, -, hret, hlk, -⟩ := C
  obtain ⟨fs, hr, hrun, hended, hW, hsame⟩ := X.leave (v := some (.int z)) (fun h => by rw [hret] at h; cases h) hlk
  exact ⟨_, _, retI X hx hret (hb hby hd) hr, hrun, hended, _, _, rfl, hQ, ⟨_, rfl⟩, hW, hsame.mono hc hs⟩
theorem ow_retZ {Q : Option Value → Heap → List Loc → Prop} {kc ks : Nat} {z : Int32} (C : OwC p Z s m meth c own nm bytes maxL (some .boolean)) (X : Stand p l e R s m args below meth c T locs cells slots) (hd : decode bytes pc = .ok (.ireturn, 1)) (hc : cells ≤ kc) (hs : slots ≤ ks) (hz : z = 0 ∨ z = 1)
    (hQ : Q (some (.int z)) T.heap locs) : OwF p e below (OwD s below Q kc ks) T (mkF m pc Ls (.int z :: r)) := by
  obtain ⟨hx, hby, -, -, -, hret, hlk, -⟩ := C
  have hn : nar .boolean z = z := by rcases hz with rfl | rfl <;> decide
  obtain ⟨fs, hr, hrun, hended, hW, hsame⟩ := X.leave (v := some (.int z)) (fun h => by rw [hret] at h; cases h) hlk
  exact ⟨_, _, retN X hx hret (by simp) (hb hby hd) (by rw [hn]; exact hr), hrun, hended, _, _, rfl, hQ, ⟨_, rfl⟩, hW, hsame.mono hc hs⟩
theorem ow_retJ {Q : Option Value → Heap → List Loc → Prop} {kc ks : Nat} {z : Int64} (C : OwC p Z s m meth c own nm bytes maxL (some .long)) (X : Stand p l e R s m args below meth c T locs cells slots) (hd : decode bytes pc = .ok (.lreturn, 1)) (hc : cells ≤ kc) (hs : slots ≤ ks)
    (hQ : Q (some (.long z)) T.heap locs) : OwF p e below (OwD s below Q kc ks) T (mkF m pc Ls [.long z]) := by
  obtain ⟨hx, hby, -, -, -, hret, hlk, -⟩ := C
  obtain ⟨fs, hr, hrun, hended, hW, hsame⟩ := X.leave (v := some (.long z)) (fun h => by rw [hret] at h; cases h) hlk
  exact ⟨_, _, X.lreturnOut hx hret (hb hby hd) hr, hrun, hended, _, _, rfl, hQ, ⟨_, rfl⟩, hW, hsame.mono hc hs⟩
theorem ow_retV {Q : Option Value → Heap → List Loc → Prop} {kc ks : Nat} (C : OwC p Z s m meth c own nm bytes maxL none) (X : Stand p l e R s m args below meth c T locs cells slots) (hd : decode bytes pc = .ok (.return_, 1)) (hc : cells ≤ kc) (hs : slots ≤ ks)
    (hQ : Q none T.heap locs) : OwF p e below (OwD s below Q kc ks) T (mkF m pc Ls []) := by
  obtain ⟨hx, hby, -, -, -, hret, hlk, -⟩ := C
  obtain ⟨fs, hr, hrun, hended, hW, hsame⟩ := X.leave (v := none) (fun _ => rfl) hlk
  exact ⟨_, _, X.returnOut hx hret (hb hby hd) hr, hrun, hended, _, _, rfl, hQ, ⟨_, rfl⟩, hW, hsame.mono hc hs⟩
end OwnKit
section OwnSteps
variable {p : Program} {l : Launch} {e : Env} {R : Room} {s : State} {m : MethodId} {args : Array Value} {below : List Frame} {meth : Method} {c : Code} {T : State} {locs : List Loc} {cells slots : Nat} {Z : State} {a0 : Array Value} {h : Heap}
variable {own nm : String} {bytes : ByteArray} {maxL : Nat} {ret : Option FieldType} {D : State → Outcome → Prop} {pc pc' pcT : Nat} {Ls Ls' : Array Slot} {r : List Value}
theorem ow_iadd {x y : Int32} (C : OwC p Z s m meth c own nm bytes maxL ret) (X : Stand p l e R s m args below meth c T locs cells slots) (hd : decode bytes pc = .ok (.iadd, 1))  (hp : pc + 1 = pc') (k : OwF p e below D T (mkF m pc' Ls (.int (x + y) :: r))) : OwF p e below D T (mkF m pc Ls (.int y :: .int x :: r)) := by
  subst hp; exact OwF.st (fun _ q => XS.iadd X.here C.1 rfl (hb C.2.1 hd) rfl q) k
theorem ow_isub {x y : Int32} (C : OwC p Z s m meth c own nm bytes maxL ret) (X : Stand p l e R s m args below meth c T locs cells slots) (hd : decode bytes pc = .ok (.isub, 1))  (hp : pc + 1 = pc') (k : OwF p e below D T (mkF m pc' Ls (.int (x - y) :: r))) : OwF p e below D T (mkF m pc Ls (.int y :: .int x :: r)) := by
  subst hp; exact OwF.st (fun _ q => XS.isub X.here C.1 rfl (hb C.2.1 hd) rfl q) k
theorem ow_imul {x y : Int32} (C : OwC p Z s m meth c own nm bytes maxL ret) (X : Stand p l e R s m args below meth c T locs cells slots) (hd : decode bytes pc = .ok (.imul, 1))  (hp : pc + 1 = pc') (k : OwF p e below D T (mkF m pc' Ls (.int (x * y) :: r))) : OwF p e below D T (mkF m pc Ls (.int y :: .int x :: r)) := by
  subst hp; exact OwF.st (fun _ q => XS.imul X.here C.1 rfl (hb C.2.1 hd) rfl q) k
theorem ow_iand {x y : Int32} (C : OwC p Z s m meth c own nm bytes maxL ret) (X : Stand p l e R s m args below meth c T locs cells slots) (hd : decode bytes pc = .ok (.iand, 1))  (hp : pc + 1 = pc') (k : OwF p e below D T (mkF m pc' Ls (.int (x &&& y) :: r))) : OwF p e below D T (mkF m pc Ls (.int y :: .int x :: r)) := by
  subst hp; exact OwF.st (fun _ q => XS.iand X.here C.1 rfl (hb C.2.1 hd) rfl q) k
theorem ow_ior {x y : Int32} (C : OwC p Z s m meth c own nm bytes maxL ret) (X : Stand p l e R s m args below meth c T locs cells slots) (hd : decode bytes pc = .ok (.ior, 1))  (hp : pc + 1 = pc') (k : OwF p e below D T (mkF m pc' Ls (.int (x ||| y) :: r))) : OwF p e below D T (mkF m pc Ls (.int y :: .int x :: r)) := by
  subst hp; exact OwF.st (fun _ q => XT.ior X.here C.1 rfl (hb C.2.1 hd) rfl q) k
theorem ow_ixor {x y : Int32} (C : OwC p Z s m meth c own nm bytes maxL ret) (X : Stand p l e R s m args below meth c T locs cells slots) (hd : decode bytes pc = .ok (.ixor, 1))  (hp : pc + 1 = pc') (k : OwF p e below D T (mkF m pc' Ls (.int (x ^^^ y) :: r))) : OwF p e below D T (mkF m pc Ls (.int y :: .int x :: r)) := by
  subst hp; exact OwF.st (fun _ q => XT.ixor X.here C.1 rfl (hb C.2.1 hd) rfl q) k
theorem ow_ishl {x y : Int32} (C : OwC p Z s m meth c own nm bytes maxL ret) (X : Stand p l e R s m args below meth c T locs cells slots) (hd : decode bytes pc = .ok (.ishl, 1))  (hp : pc + 1 = pc') (k : OwF p e below D T (mkF m pc' Ls (.int (x <<< (y &&& 31)) :: r))) : OwF p e below D T (mkF m pc Ls (.int y :: .int x :: r)) := by
  subst hp; exact OwF.st (fun _ q => XT.ishl X.here C.1 rfl (hb C.2.1 hd) rfl q) k
theorem ow_ishr {x y : Int32} (C : OwC p Z s m meth c own nm bytes maxL ret) (X : Stand p l e R s m args below meth c T locs cells slots) (hd : decode bytes pc = .ok (.ishr, 1))  (hp : pc + 1 = pc') (k : OwF p e below D T (mkF m pc' Ls (.int (x >>> (y &&& 31)) :: r))) : OwF p e below D T (mkF m pc Ls (.int y :: .int x :: r)) := by
  subst hp; exact OwF.st (fun _ q => XT.ishr X.here C.1 rfl (hb C.2.1 hd) rfl q) k
theorem ow_iushr {x y : Int32} (C : OwC p Z s m meth c own nm bytes maxL ret) (X : Stand p l e R s m args below meth c T locs cells slots) (hd : decode bytes pc = .ok (.iushr, 1))  (hp : pc + 1 = pc') (k : OwF p e below D T (mkF m pc' Ls (.int (XT.ushr x y) :: r))) : OwF p e below D T (mkF m pc Ls (.int y :: .int x :: r)) := by
  subst hp; exact OwF.st (fun _ q => XT.iushr X.here C.1 rfl (hb C.2.1 hd) rfl q) k
theorem ow_idiv {x y : Int32} (C : OwC p Z s m meth c own nm bytes maxL ret) (X : Stand p l e R s m args below meth c T locs cells slots) (hd : decode bytes pc = .ok (.idiv, 1)) (hy : y ≠ 0) (hp : pc + 1 = pc') (k : OwF p e below D T (mkF m pc' Ls (.int (x / y) :: r))) : OwF p e below D T (mkF m pc Ls (.int y :: .int x :: r)) := by
  subst hp; exact OwF.st (fun _ q => XS.idiv X.here C.1 rfl (hb C.2.1 hd) rfl hy q) k
theorem ow_irem {x y : Int32} (C : OwC p Z s m meth c own nm bytes maxL ret) (X : Stand p l e R s m args below meth c T locs cells slots) (hd : decode bytes pc = .ok (.irem, 1)) (hy : y ≠ 0) (hp : pc + 1 = pc') (k : OwF p e below D T (mkF m pc' Ls (.int (x - (x / y) * y) :: r))) : OwF p e below D T (mkF m pc Ls (.int y :: .int x :: r)) := by
  subst hp; exact OwF.st (fun _ q => XS.irem X.here C.1 rfl (hb C.2.1 hd) rfl hy q) k
theorem ow_ladd {x y : Int64} (C : OwC p Z s m meth c own nm bytes maxL ret) (X : Stand p l e R s m args below meth c T locs cells slots) (hd : decode bytes pc = .ok (.ladd, 1))  (hp : pc + 1 = pc') (k : OwF p e below D T (mkF m pc' Ls (.long (x + y) :: r))) : OwF p e below D T (mkF m pc Ls (.long y :: .long x :: r)) := by
  subst hp; exact OwF.st (fun _ q => XT.ladd X.here C.1 rfl (hb C.2.1 hd) rfl q) k
theorem ow_lsub {x y : Int64} (C : OwC p Z s m meth c own nm bytes maxL ret) (X : Stand p l e R s m args below meth c T locs cells slots) (hd : decode bytes pc = .ok (.lsub, 1))  (hp : pc + 1 = pc') (k : OwF p e below D T (mkF m pc' Ls (.long (x - y) :: r))) : OwF p e below D T (mkF m pc Ls (.long y :: .long x :: r)) := by
  subst hp; exact OwF.st (fun _ q => XT.lsub X.here C.1 rfl (hb C.2.1 hd) rfl q) k
theorem ow_lmul {x y : Int64} (C : OwC p Z s m meth c own nm bytes maxL ret) (X : Stand p l e R s m args below meth c T locs cells slots) (hd : decode bytes pc = .ok (.lmul, 1))  (hp : pc + 1 = pc') (k : OwF p e below D T (mkF m pc' Ls (.long (x * y) :: r))) : OwF p e below D T (mkF m pc Ls (.long y :: .long x :: r)) := by
  subst hp; exact OwF.st (fun _ q => XT.lmul X.here C.1 rfl (hb C.2.1 hd) rfl q) k
theorem ow_land {x y : Int64} (C : OwC p Z s m meth c own nm bytes maxL ret) (X : Stand p l e R s m args below meth c T locs cells slots) (hd : decode bytes pc = .ok (.land, 1))  (hp : pc + 1 = pc') (k : OwF p e below D T (mkF m pc' Ls (.long (x &&& y) :: r))) : OwF p e below D T (mkF m pc Ls (.long y :: .long x :: r)) := by
  subst hp; exact OwF.st (fun _ q => XT.land X.here C.1 rfl (hb C.2.1 hd) rfl q) k
theorem ow_lor {x y : Int64} (C : OwC p Z s m meth c own nm bytes maxL ret) (X : Stand p l e R s m args below meth c T locs cells slots) (hd : decode bytes pc = .ok (.lor, 1))  (hp : pc + 1 = pc') (k : OwF p e below D T (mkF m pc' Ls (.long (x ||| y) :: r))) : OwF p e below D T (mkF m pc Ls (.long y :: .long x :: r)) := by
  subst hp; exact OwF.st (fun _ q => XT.lor X.here C.1 rfl (hb C.2.1 hd) rfl q) k
theorem ow_lxor {x y : Int64} (C : OwC p Z s m meth c own nm bytes maxL ret) (X : Stand p l e R s m args below meth c T locs cells slots) (hd : decode bytes pc = .ok (.lxor, 1))  (hp : pc + 1 = pc') (k : OwF p e below D T (mkF m pc' Ls (.long (x ^^^ y) :: r))) : OwF p e below D T (mkF m pc Ls (.long y :: .long x :: r)) := by
  subst hp; exact OwF.st (fun _ q => XT.lxor X.here C.1 rfl (hb C.2.1 hd) rfl q) k
theorem ow_ldiv {x y : Int64} (C : OwC p Z s m meth c own nm bytes maxL ret) (X : Stand p l e R s m args below meth c T locs cells slots) (hd : decode bytes pc = .ok (.ldiv, 1)) (hy : y ≠ 0) (hp : pc + 1 = pc') (k : OwF p e below D T (mkF m pc' Ls (.long (x / y) :: r))) : OwF p e below D T (mkF m pc Ls (.long y :: .long x :: r)) := by
  subst hp; exact OwF.st (fun _ q => XT.ldiv X.here C.1 rfl (hb C.2.1 hd) rfl hy q) k
theorem ow_lrem {x y : Int64} (C : OwC p Z s m meth c own nm bytes maxL ret) (X : Stand p l e R s m args below meth c T locs cells slots) (hd : decode bytes pc = .ok (.lrem, 1)) (hy : y ≠ 0) (hp : pc + 1 = pc') (k : OwF p e below D T (mkF m pc' Ls (.long (x - (x / y) * y) :: r))) : OwF p e below D T (mkF m pc Ls (.long y :: .long x :: r)) := by
  subst hp; exact OwF.st (fun _ q => XT.lrem X.here C.1 rfl (hb C.2.1 hd) rfl hy q) k
theorem ow_lshl {x : Int64} {y : Int32} (C : OwC p Z s m meth c own nm bytes maxL ret) (X : Stand p l e R s m args below meth c T locs cells slots) (hd : decode bytes pc = .ok (.lshl, 1))  (hp : pc + 1 = pc') (k : OwF p e below D T (mkF m pc' Ls (.long (x <<< (y.toInt64 &&& 63)) :: r))) : OwF p e below D T (mkF m pc Ls (.int y :: .long x :: r)) := by
  subst hp; exact OwF.st (fun _ q => XT.lshl X.here C.1 rfl (hb C.2.1 hd) rfl q) k
theorem ow_lshr {x : Int64} {y : Int32} (C : OwC p Z s m meth c own nm bytes maxL ret) (X : Stand p l e R s m args below meth c T locs cells slots) (hd : decode bytes pc = .ok (.lshr, 1))  (hp : pc + 1 = pc') (k : OwF p e below D T (mkF m pc' Ls (.long (x >>> (y.toInt64 &&& 63)) :: r))) : OwF p e below D T (mkF m pc Ls (.int y :: .long x :: r)) := by
  subst hp; exact OwF.st (fun _ q => XT.lshr X.here C.1 rfl (hb C.2.1 hd) rfl q) k
theorem ow_lushr {x : Int64} {y : Int32} (C : OwC p Z s m meth c own nm bytes maxL ret) (X : Stand p l e R s m args below meth c T locs cells slots) (hd : decode bytes pc = .ok (.lushr, 1))  (hp : pc + 1 = pc') (k : OwF p e below D T (mkF m pc' Ls (.long (XT.ushrL x y) :: r))) : OwF p e below D T (mkF m pc Ls (.int y :: .long x :: r)) := by
  subst hp; exact OwF.st (fun _ q => XT.lushr X.here C.1 rfl (hb C.2.1 hd) rfl q) k
theorem ow_lcmp {x y : Int64} (C : OwC p Z s m meth c own nm bytes maxL ret) (X : Stand p l e R s m args below meth c T locs cells slots) (hd : decode bytes pc = .ok (.lcmp, 1))  (hp : pc + 1 = pc') (k : OwF p e below D T (mkF m pc' Ls (.int (XT.cmpL x y) :: r))) : OwF p e below D T (mkF m pc Ls (.long y :: .long x :: r)) := by
  subst hp; exact OwF.st (fun _ q => XT.lcmp X.here C.1 rfl (hb C.2.1 hd) rfl q) k
theorem ow_ineg {x : Int32} (C : OwC p Z s m meth c own nm bytes maxL ret) (X : Stand p l e R s m args below meth c T locs cells slots) (hd : decode bytes pc = .ok (.ineg, 1))  (hp : pc + 1 = pc') (k : OwF p e below D T (mkF m pc' Ls (.int (-x) :: r))) : OwF p e below D T (mkF m pc Ls (.int x :: r)) := by
  subst hp; exact OwF.st (fun _ q => XS.ineg X.here C.1 rfl (hb C.2.1 hd) rfl q) k
theorem ow_lneg {x : Int64} (C : OwC p Z s m meth c own nm bytes maxL ret) (X : Stand p l e R s m args below meth c T locs cells slots) (hd : decode bytes pc = .ok (.lneg, 1))  (hp : pc + 1 = pc') (k : OwF p e below D T (mkF m pc' Ls (.long (-x) :: r))) : OwF p e below D T (mkF m pc Ls (.long x :: r)) := by
  subst hp; exact OwF.st (fun _ q => XT.lneg X.here C.1 rfl (hb C.2.1 hd) rfl q) k
theorem ow_i2l {x : Int32} (C : OwC p Z s m meth c own nm bytes maxL ret) (X : Stand p l e R s m args below meth c T locs cells slots) (hd : decode bytes pc = .ok (.i2l, 1))  (hp : pc + 1 = pc') (k : OwF p e below D T (mkF m pc' Ls (.long x.toInt64 :: r))) : OwF p e below D T (mkF m pc Ls (.int x :: r)) := by
  subst hp; exact OwF.st (fun _ q => XT.i2l X.here C.1 rfl (hb C.2.1 hd) rfl q) k
theorem ow_l2i {x : Int64} (C : OwC p Z s m meth c own nm bytes maxL ret) (X : Stand p l e R s m args below meth c T locs cells slots) (hd : decode bytes pc = .ok (.l2i, 1))  (hp : pc + 1 = pc') (k : OwF p e below D T (mkF m pc' Ls (.int x.toInt32 :: r))) : OwF p e below D T (mkF m pc Ls (.long x :: r)) := by
  subst hp; exact OwF.st (fun _ q => XT.l2i X.here C.1 rfl (hb C.2.1 hd) rfl q) k
theorem ow_i2b {x : Int32} (C : OwC p Z s m meth c own nm bytes maxL ret) (X : Stand p l e R s m args below meth c T locs cells slots) (hd : decode bytes pc = .ok (.i2b, 1))  (hp : pc + 1 = pc') (k : OwF p e below D T (mkF m pc' Ls (.int x.toInt8.toInt32 :: r))) : OwF p e below D T (mkF m pc Ls (.int x :: r)) := by
  subst hp; exact OwF.st (fun _ q => XT.i2b X.here C.1 rfl (hb C.2.1 hd) rfl q) k
theorem ow_i2c {x : Int32} (C : OwC p Z s m meth c own nm bytes maxL ret) (X : Stand p l e R s m args below meth c T locs cells slots) (hd : decode bytes pc = .ok (.i2c, 1))  (hp : pc + 1 = pc') (k : OwF p e below D T (mkF m pc' Ls (.int x.toUInt32.toUInt16.toUInt32.toInt32 :: r))) : OwF p e below D T (mkF m pc Ls (.int x :: r)) := by
  subst hp; exact OwF.st (fun _ q => XT.i2c X.here C.1 rfl (hb C.2.1 hd) rfl q) k
theorem ow_i2s {x : Int32} (C : OwC p Z s m meth c own nm bytes maxL ret) (X : Stand p l e R s m args below meth c T locs cells slots) (hd : decode bytes pc = .ok (.i2s, 1))  (hp : pc + 1 = pc') (k : OwF p e below D T (mkF m pc' Ls (.int x.toInt16.toInt32 :: r))) : OwF p e below D T (mkF m pc Ls (.int x :: r)) := by
  subst hp; exact OwF.st (fun _ q => XT.i2s X.here C.1 rfl (hb C.2.1 hd) rfl q) k
theorem ow_dup {v : Value} (C : OwC p Z s m meth c own nm bytes maxL ret) (X : Stand p l e R s m args below meth c T locs cells slots) (hd : decode bytes pc = .ok (.dup, 1)) (hc : v.category = 1) (hp : pc + 1 = pc') (k : OwF p e below D T (mkF m pc' Ls (v :: v :: r))) : OwF p e below D T (mkF m pc Ls (v :: r)) := by
  subst hp; exact OwF.st (fun _ q => XS.dup X.here C.1 rfl (hb C.2.1 hd) rfl hc q) k
theorem ow_pop {v : Value} (C : OwC p Z s m meth c own nm bytes maxL ret) (X : Stand p l e R s m args below meth c T locs cells slots) (hd : decode bytes pc = .ok (.pop, 1)) (hc : v.category = 1) (hp : pc + 1 = pc') (k : OwF p e below D T (mkF m pc' Ls (r))) : OwF p e below D T (mkF m pc Ls (v :: r)) := by
  subst hp; exact OwF.st (fun _ q => XT.pop X.here C.1 rfl (hb C.2.1 hd) rfl hc q) k
theorem ow_dupX1 {v w : Value} (C : OwC p Z s m meth c own nm bytes maxL ret) (X : Stand p l e R s m args below meth c T locs cells slots) (hd : decode bytes pc = .ok (.dup_x1, 1)) (hc : v.category = 1) (hc' : w.category = 1) (hp : pc + 1 = pc') (k : OwF p e below D T (mkF m pc' Ls (v :: w :: v :: r))) : OwF p e below D T (mkF m pc Ls (v :: w :: r)) := by
  subst hp; exact OwF.st (fun _ q => XT.dupX1 X.here C.1 rfl (hb C.2.1 hd) rfl hc hc' q) k
theorem ow_dup2 {v w : Value} (C : OwC p Z s m meth c own nm bytes maxL ret) (X : Stand p l e R s m args below meth c T locs cells slots) (hd : decode bytes pc = .ok (.dup2, 1)) (hc : v.category = 1) (hc' : w.category = 1) (hp : pc + 1 = pc') (k : OwF p e below D T (mkF m pc' Ls (v :: w :: v :: w :: r))) : OwF p e below D T (mkF m pc Ls (v :: w :: r)) := by
  subst hp; exact OwF.st (fun _ q => XT.dup2 X.here C.1 rfl (hb C.2.1 hd) rfl hc hc' q) k
theorem ow_dup2L {x : Int64} (C : OwC p Z s m meth c own nm bytes maxL ret) (X : Stand p l e R s m args below meth c T locs cells slots) (hd : decode bytes pc = .ok (.dup2, 1))  (hp : pc + 1 = pc') (k : OwF p e below D T (mkF m pc' Ls (.long x :: .long x :: r))) : OwF p e below D T (mkF m pc Ls (.long x :: r)) := by
  subst hp; exact OwF.st (fun _ q => XT.dup2L X.here C.1 rfl (hb C.2.1 hd) rfl q) k
theorem ow_aconstNull  (C : OwC p Z s m meth c own nm bytes maxL ret) (X : Stand p l e R s m args below meth c T locs cells slots) (hd : decode bytes pc = .ok (.aconst_null, 1))  (hp : pc + 1 = pc') (k : OwF p e below D T (mkF m pc' Ls (.null :: r))) : OwF p e below D T (mkF m pc Ls (r)) := by
  subst hp; exact OwF.st (fun _ q => XS.aconstNull X.here C.1 rfl (hb C.2.1 hd)  q) k
theorem ow_iloadN {j : Fin 4} {v : Int32} (C : OwC p Z s m meth c own nm bytes maxL ret) (X : Stand p l e R s m args below meth c T locs cells slots) (hd : decode bytes pc = .ok (.iload_n j, 1)) (hl : Ls[j.val]? = some (.val (.int v))) (hp : pc + 1 = pc') (k : OwF p e below D T (mkF m pc' Ls (.int v :: r))) : OwF p e below D T (mkF m pc Ls (r)) := by
  subst hp; exact OwF.st (fun _ q => XS.iloadN X.here C.1 rfl (hb C.2.1 hd) hl q) k
theorem ow_iload {j : Nat} {v : Int32} (C : OwC p Z s m meth c own nm bytes maxL ret) (X : Stand p l e R s m args below meth c T locs cells slots) (hd : decode bytes pc = .ok (.iload j, 2)) (hl : Ls[j]? = some (.val (.int v))) (hp : pc + 2 = pc') (k : OwF p e below D T (mkF m pc' Ls (.int v :: r))) : OwF p e below D T (mkF m pc Ls (r)) := by
  subst hp; exact OwF.st (fun _ q => XS.iload X.here C.1 rfl (hb C.2.1 hd) hl q) k
theorem ow_lloadN {j : Fin 4} {v : Int64} (C : OwC p Z s m meth c own nm bytes maxL ret) (X : Stand p l e R s m args below meth c T locs cells slots) (hd : decode bytes pc = .ok (.lload_n j, 1)) (hl : Ls[j.val]? = some (.val (.long v))) (hp : pc + 1 = pc') (k : OwF p e below D T (mkF m pc' Ls (.long v :: r))) : OwF p e below D T (mkF m pc Ls (r)) := by
  subst hp; exact OwF.st (fun _ q => XT.lloadN X.here C.1 rfl (hb C.2.1 hd) hl q) k
theorem ow_lload {j : Nat} {v : Int64} (C : OwC p Z s m meth c own nm bytes maxL ret) (X : Stand p l e R s m args below meth c T locs cells slots) (hd : decode bytes pc = .ok (.lload j, 2)) (hl : Ls[j]? = some (.val (.long v))) (hp : pc + 2 = pc') (k : OwF p e below D T (mkF m pc' Ls (.long v :: r))) : OwF p e below D T (mkF m pc Ls (r)) := by
  subst hp; exact OwF.st (fun _ q => XT.lload X.here C.1 rfl (hb C.2.1 hd) hl q) k
theorem ow_aloadN {j : Fin 4} {v : Value} (C : OwC p Z s m meth c own nm bytes maxL ret) (X : Stand p l e R s m args below meth c T locs cells slots) (hd : decode bytes pc = .ok (.aload_n j, 1)) (hl : Ls[j.val]? = some (.val v)) (hv : v.isRef = true) (hp : pc + 1 = pc') (k : OwF p e below D T (mkF m pc' Ls (v :: r))) : OwF p e below D T (mkF m pc Ls (r)) := by
  subst hp; exact OwF.st (fun _ q => XS.aloadN X.here C.1 rfl (hb C.2.1 hd) hl hv q) k
theorem ow_aload {j : Nat} {v : Value} (C : OwC p Z s m meth c own nm bytes maxL ret) (X : Stand p l e R s m args below meth c T locs cells slots) (hd : decode bytes pc = .ok (.aload j, 2)) (hl : Ls[j]? = some (.val v)) (hv : v.isRef = true) (hp : pc + 2 = pc') (k : OwF p e below D T (mkF m pc' Ls (v :: r))) : OwF p e below D T (mkF m pc Ls (r)) := by
  subst hp; exact OwF.st (fun _ q => XS.aload X.here C.1 rfl (hb C.2.1 hd) hl hv q) k
theorem ow_istoreN {j : Fin 4} {v : Int32} (C : OwC p Z s m meth c own nm bytes maxL ret) (X : Stand p l e R s m args below meth c T locs cells slots) (hd : decode bytes pc = .ok (.istore_n j, 1)) (hl : storeLocals Ls j.val (.int v) = some Ls') (hp : pc + 1 = pc') (k : OwF p e below D T (mkF m pc' Ls' (r))) : OwF p e below D T (mkF m pc Ls (.int v :: r)) := by
  subst hp; exact OwF.st (fun _ q => XS.istoreN X.here C.1 rfl (hb C.2.1 hd) rfl hl q) k
theorem ow_istore {j : Nat} {v : Int32} (C : OwC p Z s m meth c own nm bytes maxL ret) (X : Stand p l e R s m args below meth c T locs cells slots) (hd : decode bytes pc = .ok (.istore j, 2)) (hl : storeLocals Ls j (.int v) = some Ls') (hp : pc + 2 = pc') (k : OwF p e below D T (mkF m pc' Ls' (r))) : OwF p e below D T (mkF m pc Ls (.int v :: r)) := by
  subst hp; exact OwF.st (fun _ q => XS.istore X.here C.1 rfl (hb C.2.1 hd) rfl hl q) k
theorem ow_lstoreN {j : Fin 4} {v : Int64} (C : OwC p Z s m meth c own nm bytes maxL ret) (X : Stand p l e R s m args below meth c T locs cells slots) (hd : decode bytes pc = .ok (.lstore_n j, 1)) (hl : storeLocals Ls j.val (.long v) = some Ls') (hp : pc + 1 = pc') (k : OwF p e below D T (mkF m pc' Ls' (r))) : OwF p e below D T (mkF m pc Ls (.long v :: r)) := by
  subst hp; exact OwF.st (fun _ q => XT.lstoreN X.here C.1 rfl (hb C.2.1 hd) rfl hl q) k
theorem ow_lstore {j : Nat} {v : Int64} (C : OwC p Z s m meth c own nm bytes maxL ret) (X : Stand p l e R s m args below meth c T locs cells slots) (hd : decode bytes pc = .ok (.lstore j, 2)) (hl : storeLocals Ls j (.long v) = some Ls') (hp : pc + 2 = pc') (k : OwF p e below D T (mkF m pc' Ls' (r))) : OwF p e below D T (mkF m pc Ls (.long v :: r)) := by
  subst hp; exact OwF.st (fun _ q => XT.lstore X.here C.1 rfl (hb C.2.1 hd) rfl hl q) k
theorem ow_astoreN {j : Fin 4} {v : Value} (C : OwC p Z s m meth c own nm bytes maxL ret) (X : Stand p l e R s m args below meth c T locs cells slots) (hd : decode bytes pc = .ok (.astore_n j, 1)) (hv : v.isRef = true) (hl : storeLocals Ls j.val v = some Ls') (hp : pc + 1 = pc') (k : OwF p e below D T (mkF m pc' Ls' (r))) : OwF p e below D T (mkF m pc Ls (v :: r)) := by
  subst hp; exact OwF.st (fun _ q => XS.astoreN X.here C.1 rfl (hb C.2.1 hd) rfl hv hl q) k
theorem ow_astore {j : Nat} {v : Value} (C : OwC p Z s m meth c own nm bytes maxL ret) (X : Stand p l e R s m args below meth c T locs cells slots) (hd : decode bytes pc = .ok (.astore j, 2)) (hv : v.isRef = true) (hl : storeLocals Ls j v = some Ls') (hp : pc + 2 = pc') (k : OwF p e below D T (mkF m pc' Ls' (r))) : OwF p e below D T (mkF m pc Ls (v :: r)) := by
  subst hp; exact OwF.st (fun _ q => XS.astore X.here C.1 rfl (hb C.2.1 hd) rfl hv hl q) k
theorem ow_iconst {i : Int} (v : Int32) (C : OwC p Z s m meth c own nm bytes maxL ret) (X : Stand p l e R s m args below meth c T locs cells slots) (hd : decode bytes pc = .ok (.iconst i, 1)) (hv : Int32.ofInt i = v) (hp : pc + 1 = pc') (k : OwF p e below D T (mkF m pc' Ls (.int v :: r))) : OwF p e below D T (mkF m pc Ls r) := by
  subst hp; subst hv; exact OwF.st (fun _ q => XS.iconst X.here C.1 rfl (hb C.2.1 hd) q) k
theorem ow_bipush {i : Int} (v : Int32) (C : OwC p Z s m meth c own nm bytes maxL ret) (X : Stand p l e R s m args below meth c T locs cells slots) (hd : decode bytes pc = .ok (.bipush i, 2)) (hv : (Int8.ofInt i).toInt32 = v) (hp : pc + 2 = pc') (k : OwF p e below D T (mkF m pc' Ls (.int v :: r))) : OwF p e below D T (mkF m pc Ls r) := by
  subst hp; subst hv; exact OwF.st (fun _ q => XS.bipush X.here C.1 rfl (hb C.2.1 hd) q) k
theorem ow_sipush {i : Int} (v : Int32) (C : OwC p Z s m meth c own nm bytes maxL ret) (X : Stand p l e R s m args below meth c T locs cells slots) (hd : decode bytes pc = .ok (.sipush i, 3)) (hv : (Int16.ofInt i).toInt32 = v) (hp : pc + 3 = pc') (k : OwF p e below D T (mkF m pc' Ls (.int v :: r))) : OwF p e below D T (mkF m pc Ls r) := by
  subst hp; subst hv; exact OwF.st (fun _ q => XS.sipush X.here C.1 rfl (hb C.2.1 hd) q) k
theorem ow_lconst {i : Fin 2} (v : Int64) (C : OwC p Z s m meth c own nm bytes maxL ret) (X : Stand p l e R s m args below meth c T locs cells slots) (hd : decode bytes pc = .ok (.lconst i, 1)) (hv : Int64.ofNat i = v) (hp : pc + 1 = pc') (k : OwF p e below D T (mkF m pc' Ls (.long v :: r))) : OwF p e below D T (mkF m pc Ls r) := by
  subst hp; subst hv; exact OwF.st (fun _ q => XT.lconst X.here C.1 rfl (hb C.2.1 hd) q) k
theorem ow_iinc {i : Int} {j : Nat} {x : Int32} (v : Int32) (C : OwC p Z s m meth c own nm bytes maxL ret) (X : Stand p l e R s m args below meth c T locs cells slots) (hd : decode bytes pc = .ok (.iinc j i, 3)) (hv : Int32.ofInt i = v) (hl : Ls[j]? = some (.val (.int x))) (hl' : storeLocals Ls j (.int (x + v)) = some Ls') (hp : pc + 3 = pc') (k : OwF p e below D T (mkF m pc' Ls' r)) : OwF p e below D T (mkF m pc Ls r) := by
  subst hp; subst hv; exact OwF.st (fun _ q => XS.iinc X.here C.1 rfl (hb C.2.1 hd) hl hl' q) k
theorem ow_ldc {i : Nat} {v : Int32} (C : OwC p Z s m meth c own nm bytes maxL ret) (X : Stand p l e R s m args below meth c T locs cells slots) (w : (Jvm.Cond.constant own i v).before a0 Z = true) (hd : decode bytes pc = .ok (.ldc i, 2)) (hp : pc + 2 = pc') (k : OwF p e below D T (mkF m pc' Ls (.int v :: r))) : OwF p e below D T (mkF m pc Ls r) := by
  subst hp; exact OwF.st (fun _ q => X.ldcI C.1 C.2.2.2.1 (mvT C.2.2.2.2.2.2.2 w) rfl (hb C.2.1 hd) q) k
theorem ow_ldcW {i : Nat} {v : Int32} (C : OwC p Z s m meth c own nm bytes maxL ret) (X : Stand p l e R s m args below meth c T locs cells slots) (w : (Jvm.Cond.constant own i v).before a0 Z = true) (hd : decode bytes pc = .ok (.ldc_w i, 3)) (hp : pc + 3 = pc') (k : OwF p e below D T (mkF m pc' Ls (.int v :: r))) : OwF p e below D T (mkF m pc Ls r) := by
  subst hp; exact OwF.st (fun _ q => X.ldcWI C.1 C.2.2.2.1 (mvT C.2.2.2.2.2.2.2 w) rfl (hb C.2.1 hd) q) k
theorem ow_ldc2 {i : Nat} {v : Int64} (C : OwC p Z s m meth c own nm bytes maxL ret) (X : Stand p l e R s m args below meth c T locs cells slots) (w : (Jvm.Cond.constantLong own i v).before a0 Z = true) (hd : decode bytes pc = .ok (.ldc2_w i, 3)) (hp : pc + 3 = pc') (k : OwF p e below D T (mkF m pc' Ls (.long v :: r))) : OwF p e below D T (mkF m pc Ls r) := by
  subst hp; exact OwF.st (fun _ q => X.ldc2J C.1 C.2.2.2.1 (mvT C.2.2.2.2.2.2.2 w) rfl (hb C.2.1 hd) q) k
theorem ow_goto {o : Int} (C : OwC p Z s m meth c own nm bytes maxL ret) (X : Stand p l e R s m args below meth c T locs cells slots) (hd : decode bytes pc = .ok (.goto o, 3)) (ho : 0 ≤ (pc : Int) + o) (ht : ((pc : Int) + o).toNat = pcT) (k : OwF p e below D T (mkF m pcT Ls r)) : OwF p e below D T (mkF m pc Ls r) :=
  OwF.st (fun _ q => XS.goto X.here C.1 rfl rfl (hb C.2.1 hd) ho ht q) k
theorem ow_if_eq {x : Int32} {o : Int} (C : OwC p Z s m meth c own nm bytes maxL ret) (X : Stand p l e R s m args below meth c T locs cells slots) (hd : decode bytes pc = .ok (.ifCond .eq o, 3)) (ho : 0 ≤ (pc : Int) + o) (ht : ((pc : Int) + o).toNat = pcT) (hp : pc + 3 = pc') (k1 : x = 0 → OwF p e below D T (mkF m pcT Ls r)) (k2 : ¬ x = 0 → OwF p e below D T (mkF m pc' Ls r)) : OwF p e below D T (mkF m pc Ls (.int x :: r)) := by
  subst hp
  by_cases hq : x = 0
  · exact OwF.st (fun _ q => XS.ifYes X.here C.1 rfl rfl (hb C.2.1 hd) rfl (XT.i0_eq_t hq) ho ht q) (k1 hq)
  · exact OwF.st (fun _ q => XS.ifNo X.here C.1 rfl (hb C.2.1 hd) rfl (XT.i0_eq_f hq) q) (k2 hq)
theorem ow_icmp_eq {x y : Int32} {o : Int} (C : OwC p Z s m meth c own nm bytes maxL ret) (X : Stand p l e R s m args below meth c T locs cells slots) (hd : decode bytes pc = .ok (.if_icmp .eq o, 3)) (ho : 0 ≤ (pc : Int) + o) (ht : ((pc : Int) + o).toNat = pcT) (hp : pc + 3 = pc') (k1 : x = y → OwF p e below D T (mkF m pcT Ls r)) (k2 : ¬ x = y → OwF p e below D T (mkF m pc' Ls r)) : OwF p e below D T (mkF m pc Ls (.int y :: .int x :: r)) := by
  subst hp
  by_cases hq : x = y
  · exact OwF.st (fun _ q => XS.icmpYes X.here C.1 rfl rfl (hb C.2.1 hd) rfl (XT.ii_eq_t hq) ho ht q) (k1 hq)
  · exact OwF.st (fun _ q => XS.icmpNo X.here C.1 rfl (hb C.2.1 hd) rfl (XT.ii_eq_f hq) q) (k2 hq)
theorem ow_lif_eq {x y : Int64} {o : Int} (C : OwC p Z s m meth c own nm bytes maxL ret) (X : Stand p l e R s m args below meth c T locs cells slots) (hd : decode bytes pc = .ok (.ifCond .eq o, 3)) (ho : 0 ≤ (pc : Int) + o) (ht : ((pc : Int) + o).toNat = pcT) (hp : pc + 3 = pc') (k1 : x = y → OwF p e below D T (mkF m pcT Ls r)) (k2 : ¬ x = y → OwF p e below D T (mkF m pc' Ls r)) : OwF p e below D T (mkF m pc Ls (.int (XT.cmpL x y) :: r)) := by
  subst hp
  by_cases hq : x = y
  · exact OwF.st (fun _ q => XS.ifYes X.here C.1 rfl rfl (hb C.2.1 hd) rfl (XT.ll_eq_t hq) ho ht q) (k1 hq)
  · exact OwF.st (fun _ q => XS.ifNo X.here C.1 rfl (hb C.2.1 hd) rfl (XT.ll_eq_f hq) q) (k2 hq)
theorem ow_if_ne {x : Int32} {o : Int} (C : OwC p Z s m meth c own nm bytes maxL ret) (X : Stand p l e R s m args below meth c T locs cells slots) (hd : decode bytes pc = .ok (.ifCond .ne o, 3)) (ho : 0 ≤ (pc : Int) + o) (ht : ((pc : Int) + o).toNat = pcT) (hp : pc + 3 = pc') (k1 : ¬ x = 0 → OwF p e below D T (mkF m pcT Ls r)) (k2 : x = 0 → OwF p e below D T (mkF m pc' Ls r)) : OwF p e below D T (mkF m pc Ls (.int x :: r)) := by
  subst hp
  by_cases hq : x = 0
  · exact OwF.st (fun _ q => XS.ifNo X.here C.1 rfl (hb C.2.1 hd) rfl (XT.i0_ne_f hq) q) (k2 hq)
  · exact OwF.st (fun _ q => XS.ifYes X.here C.1 rfl rfl (hb C.2.1 hd) rfl (XT.i0_ne_t hq) ho ht q) (k1 hq)
theorem ow_icmp_ne {x y : Int32} {o : Int} (C : OwC p Z s m meth c own nm bytes maxL ret) (X : Stand p l e R s m args below meth c T locs cells slots) (hd : decode bytes pc = .ok (.if_icmp .ne o, 3)) (ho : 0 ≤ (pc : Int) + o) (ht : ((pc : Int) + o).toNat = pcT) (hp : pc + 3 = pc') (k1 : ¬ x = y → OwF p e below D T (mkF m pcT Ls r)) (k2 : x = y → OwF p e below D T (mkF m pc' Ls r)) : OwF p e below D T (mkF m pc Ls (.int y :: .int x :: r)) := by
  subst hp
  by_cases hq : x = y
  · exact OwF.st (fun _ q => XS.icmpNo X.here C.1 rfl (hb C.2.1 hd) rfl (XT.ii_ne_f hq) q) (k2 hq)
  · exact OwF.st (fun _ q => XS.icmpYes X.here C.1 rfl rfl (hb C.2.1 hd) rfl (XT.ii_ne_t hq) ho ht q) (k1 hq)
theorem ow_lif_ne {x y : Int64} {o : Int} (C : OwC p Z s m meth c own nm bytes maxL ret) (X : Stand p l e R s m args below meth c T locs cells slots) (hd : decode bytes pc = .ok (.ifCond .ne o, 3)) (ho : 0 ≤ (pc : Int) + o) (ht : ((pc : Int) + o).toNat = pcT) (hp : pc + 3 = pc') (k1 : ¬ x = y → OwF p e below D T (mkF m pcT Ls r)) (k2 : x = y → OwF p e below D T (mkF m pc' Ls r)) : OwF p e below D T (mkF m pc Ls (.int (XT.cmpL x y) :: r)) := by
  subst hp
  by_cases hq : x = y
  · exact OwF.st (fun _ q => XS.ifNo X.here C.1 rfl (hb C.2.1 hd) rfl (XT.ll_ne_f hq) q) (k2 hq)
  · exact OwF.st (fun _ q => XS.ifYes X.here C.1 rfl rfl (hb C.2.1 hd) rfl (XT.ll_ne_t hq) ho ht q) (k1 hq)
theorem ow_if_lt {x : Int32} {o : Int} (C : OwC p Z s m meth c own nm bytes maxL ret) (X : Stand p l e R s m args below meth c T locs cells slots) (hd : decode bytes pc = .ok (.ifCond .lt o, 3)) (ho : 0 ≤ (pc : Int) + o) (ht : ((pc : Int) + o).toNat = pcT) (hp : pc + 3 = pc') (k1 : x < 0 → OwF p e below D T (mkF m pcT Ls r)) (k2 : ¬ x < 0 → OwF p e below D T (mkF m pc' Ls r)) : OwF p e below D T (mkF m pc Ls (.int x :: r)) := by
  subst hp
  by_cases hq : x < 0
  · exact OwF.st (fun _ q => XS.ifYes X.here C.1 rfl rfl (hb C.2.1 hd) rfl (XT.i0_lt_t hq) ho ht q) (k1 hq)
  · exact OwF.st (fun _ q => XS.ifNo X.here C.1 rfl (hb C.2.1 hd) rfl (XT.i0_lt_f hq) q) (k2 hq)
theorem ow_icmp_lt {x y : Int32} {o : Int} (C : OwC p Z s m meth c own nm bytes maxL ret) (X : Stand p l e R s m args below meth c T locs cells slots) (hd : decode bytes pc = .ok (.if_icmp .lt o, 3)) (ho : 0 ≤ (pc : Int) + o) (ht : ((pc : Int) + o).toNat = pcT) (hp : pc + 3 = pc') (k1 : x < y → OwF p e below D T (mkF m pcT Ls r)) (k2 : ¬ x < y → OwF p e below D T (mkF m pc' Ls r)) : OwF p e below D T (mkF m pc Ls (.int y :: .int x :: r)) := by
  subst hp
  by_cases hq : x < y
  · exact OwF.st (fun _ q => XS.icmpYes X.here C.1 rfl rfl (hb C.2.1 hd) rfl (XT.ii_lt_t hq) ho ht q) (k1 hq)
  · exact OwF.st (fun _ q => XS.icmpNo X.here C.1 rfl (hb C.2.1 hd) rfl (XT.ii_lt_f hq) q) (k2 hq)
theorem ow_lif_lt {x y : Int64} {o : Int} (C : OwC p Z s m meth c own nm bytes maxL ret) (X : Stand p l e R s m args below meth c T locs cells slots) (hd : decode bytes pc = .ok (.ifCond .lt o, 3)) (ho : 0 ≤ (pc : Int) + o) (ht : ((pc : Int) + o).toNat = pcT) (hp : pc + 3 = pc') (k1 : x < y → OwF p e below D T (mkF m pcT Ls r)) (k2 : ¬ x < y → OwF p e below D T (mkF m pc' Ls r)) : OwF p e below D T (mkF m pc Ls (.int (XT.cmpL x y) :: r)) := by
  subst hp
  by_cases hq : x < y
  · exact OwF.st (fun _ q => XS.ifYes X.here C.1 rfl rfl (hb C.2.1 hd) rfl (XT.ll_lt_t hq) ho ht q) (k1 hq)
  · exact OwF.st (fun _ q => XS.ifNo X.here C.1 rfl (hb C.2.1 hd) rfl (XT.ll_lt_f hq) q) (k2 hq)
theorem ow_if_ge {x : Int32} {o : Int} (C : OwC p Z s m meth c own nm bytes maxL ret) (X : Stand p l e R s m args below meth c T locs cells slots) (hd : decode bytes pc = .ok (.ifCond .ge o, 3)) (ho : 0 ≤ (pc : Int) + o) (ht : ((pc : Int) + o).toNat = pcT) (hp : pc + 3 = pc') (k1 : ¬ x < 0 → OwF p e below D T (mkF m pcT Ls r)) (k2 : x < 0 → OwF p e below D T (mkF m pc' Ls r)) : OwF p e below D T (mkF m pc Ls (.int x :: r)) := by
  subst hp
  by_cases hq : x < 0
  · exact OwF.st (fun _ q => XS.ifNo X.here C.1 rfl (hb C.2.1 hd) rfl (XT.i0_ge_f hq) q) (k2 hq)
  · exact OwF.st (fun _ q => XS.ifYes X.here C.1 rfl rfl (hb C.2.1 hd) rfl (XT.i0_ge_t hq) ho ht q) (k1 hq)
theorem ow_icmp_ge {x y : Int32} {o : Int} (C : OwC p Z s m meth c own nm bytes maxL ret) (X : Stand p l e R s m args below meth c T locs cells slots) (hd : decode bytes pc = .ok (.if_icmp .ge o, 3)) (ho : 0 ≤ (pc : Int) + o) (ht : ((pc : Int) + o).toNat = pcT) (hp : pc + 3 = pc') (k1 : ¬ x < y → OwF p e below D T (mkF m pcT Ls r)) (k2 : x < y → OwF p e below D T (mkF m pc' Ls r)) : OwF p e below D T (mkF m pc Ls (.int y :: .int x :: r)) := by
  subst hp
  by_cases hq : x < y
  · exact OwF.st (fun _ q => XS.icmpNo X.here C.1 rfl (hb C.2.1 hd) rfl (XT.ii_ge_f hq) q) (k2 hq)
  · exact OwF.st (fun _ q => XS.icmpYes X.here C.1 rfl rfl (hb C.2.1 hd) rfl (XT.ii_ge_t hq) ho ht q) (k1 hq)
theorem ow_lif_ge {x y : Int64} {o : Int} (C : OwC p Z s m meth c own nm bytes maxL ret) (X : Stand p l e R s m args below meth c T locs cells slots) (hd : decode bytes pc = .ok (.ifCond .ge o, 3)) (ho : 0 ≤ (pc : Int) + o) (ht : ((pc : Int) + o).toNat = pcT) (hp : pc + 3 = pc') (k1 : ¬ x < y → OwF p e below D T (mkF m pcT Ls r)) (k2 : x < y → OwF p e below D T (mkF m pc' Ls r)) : OwF p e below D T (mkF m pc Ls (.int (XT.cmpL x y) :: r)) := by
  subst hp
  by_cases hq : x < y
  · exact OwF.st (fun _ q => XS.ifNo X.here C.1 rfl (hb C.2.1 hd) rfl (XT.ll_ge_f hq) q) (k2 hq)
  · exact OwF.st (fun _ q => XS.ifYes X.here C.1 rfl rfl (hb C.2.1 hd) rfl (XT.ll_ge_t hq) ho ht q) (k1 hq)
theorem ow_if_gt {x : Int32} {o : Int} (C : OwC p Z s m meth c own nm bytes maxL ret) (X : Stand p l e R s m args below meth c T locs cells slots) (hd : decode bytes pc = .ok (.ifCond .gt o, 3)) (ho : 0 ≤ (pc : Int) + o) (ht : ((pc : Int) + o).toNat = pcT) (hp : pc + 3 = pc') (k1 : 0 < x → OwF p e below D T (mkF m pcT Ls r)) (k2 : ¬ 0 < x → OwF p e below D T (mkF m pc' Ls r)) : OwF p e below D T (mkF m pc Ls (.int x :: r)) := by
  subst hp
  by_cases hq : 0 < x
  · exact OwF.st (fun _ q => XS.ifYes X.here C.1 rfl rfl (hb C.2.1 hd) rfl (XT.i0_gt_t hq) ho ht q) (k1 hq)
  · exact OwF.st (fun _ q => XS.ifNo X.here C.1 rfl (hb C.2.1 hd) rfl (XT.i0_gt_f hq) q) (k2 hq)
theorem ow_icmp_gt {x y : Int32} {o : Int} (C : OwC p Z s m meth c own nm bytes maxL ret) (X : Stand p l e R s m args below meth c T locs cells slots) (hd : decode bytes pc = .ok (.if_icmp .gt o, 3)) (ho : 0 ≤ (pc : Int) + o) (ht : ((pc : Int) + o).toNat = pcT) (hp : pc + 3 = pc') (k1 : y < x → OwF p e below D T (mkF m pcT Ls r)) (k2 : ¬ y < x → OwF p e below D T (mkF m pc' Ls r)) : OwF p e below D T (mkF m pc Ls (.int y :: .int x :: r)) := by
  subst hp
  by_cases hq : y < x
  · exact OwF.st (fun _ q => XS.icmpYes X.here C.1 rfl rfl (hb C.2.1 hd) rfl (XT.ii_gt_t hq) ho ht q) (k1 hq)
  · exact OwF.st (fun _ q => XS.icmpNo X.here C.1 rfl (hb C.2.1 hd) rfl (XT.ii_gt_f hq) q) (k2 hq)
theorem ow_lif_gt {x y : Int64} {o : Int} (C : OwC p Z s m meth c own nm bytes maxL ret) (X : Stand p l e R s m args below meth c T locs cells slots) (hd : decode bytes pc = .ok (.ifCond .gt o, 3)) (ho : 0 ≤ (pc : Int) + o) (ht : ((pc : Int) + o).toNat = pcT) (hp : pc + 3 = pc') (k1 : y < x → OwF p e below D T (mkF m pcT Ls r)) (k2 : ¬ y < x → OwF p e below D T (mkF m pc' Ls r)) : OwF p e below D T (mkF m pc Ls (.int (XT.cmpL x y) :: r)) := by
  subst hp
  by_cases hq : y < x
  · exact OwF.st (fun _ q => XS.ifYes X.here C.1 rfl rfl (hb C.2.1 hd) rfl (XT.ll_gt_t hq) ho ht q) (k1 hq)
  · exact OwF.st (fun _ q => XS.ifNo X.here C.1 rfl (hb C.2.1 hd) rfl (XT.ll_gt_f hq) q) (k2 hq)
theorem ow_if_le {x : Int32} {o : Int} (C : OwC p Z s m meth c own nm bytes maxL ret) (X : Stand p l e R s m args below meth c T locs cells slots) (hd : decode bytes pc = .ok (.ifCond .le o, 3)) (ho : 0 ≤ (pc : Int) + o) (ht : ((pc : Int) + o).toNat = pcT) (hp : pc + 3 = pc') (k1 : ¬ 0 < x → OwF p e below D T (mkF m pcT Ls r)) (k2 : 0 < x → OwF p e below D T (mkF m pc' Ls r)) : OwF p e below D T (mkF m pc Ls (.int x :: r)) := by
  subst hp
  by_cases hq : 0 < x
  · exact OwF.st (fun _ q => XS.ifNo X.here C.1 rfl (hb C.2.1 hd) rfl (XT.i0_le_f hq) q) (k2 hq)
  · exact OwF.st (fun _ q => XS.ifYes X.here C.1 rfl rfl (hb C.2.1 hd) rfl (XT.i0_le_t hq) ho ht q) (k1 hq)
theorem ow_icmp_le {x y : Int32} {o : Int} (C : OwC p Z s m meth c own nm bytes maxL ret) (X : Stand p l e R s m args below meth c T locs cells slots) (hd : decode bytes pc = .ok (.if_icmp .le o, 3)) (ho : 0 ≤ (pc : Int) + o) (ht : ((pc : Int) + o).toNat = pcT) (hp : pc + 3 = pc') (k1 : ¬ y < x → OwF p e below D T (mkF m pcT Ls r)) (k2 : y < x → OwF p e below D T (mkF m pc' Ls r)) : OwF p e below D T (mkF m pc Ls (.int y :: .int x :: r)) := by
  subst hp
  by_cases hq : y < x
  · exact OwF.st (fun _ q => XS.icmpNo X.here C.1 rfl (hb C.2.1 hd) rfl (XT.ii_le_f hq) q) (k2 hq)
  · exact OwF.st (fun _ q => XS.icmpYes X.here C.1 rfl rfl (hb C.2.1 hd) rfl (XT.ii_le_t hq) ho ht q) (k1 hq)
theorem ow_lif_le {x y : Int64} {o : Int} (C : OwC p Z s m meth c own nm bytes maxL ret) (X : Stand p l e R s m args below meth c T locs cells slots) (hd : decode bytes pc = .ok (.ifCond .le o, 3)) (ho : 0 ≤ (pc : Int) + o) (ht : ((pc : Int) + o).toNat = pcT) (hp : pc + 3 = pc') (k1 : ¬ y < x → OwF p e below D T (mkF m pcT Ls r)) (k2 : y < x → OwF p e below D T (mkF m pc' Ls r)) : OwF p e below D T (mkF m pc Ls (.int (XT.cmpL x y) :: r)) := by
  subst hp
  by_cases hq : y < x
  · exact OwF.st (fun _ q => XS.ifNo X.here C.1 rfl (hb C.2.1 hd) rfl (XT.ll_le_f hq) q) (k2 hq)
  · exact OwF.st (fun _ q => XS.ifYes X.here C.1 rfl rfl (hb C.2.1 hd) rfl (XT.ll_le_t hq) ho ht q) (k1 hq)
end OwnSteps
section OwnObj
variable {p : Program} {l : Launch} {e : Env} {R : Room} {s : State} {m : MethodId} {args : Array Value} {below : List Frame} {meth : Method} {c : Code} {T : State} {locs : List Loc} {cells slots : Nat} {Z : State} {a0 : Array Value} {h : Heap}
variable {own nm : String} {bytes : ByteArray} {maxL : Nat} {ret : Option FieldType} {D : State → Outcome → Prop} {pc pc' pcT : Nat} {Ls Ls' : Array Slot} {r : List Value}
/-- what lies on a stack, in words -/
abbrev owCat (r : List Value) : Nat := (r.map fun v => v.category).sum
theorem ow_getF {O n d : String} {index : Nat} {a : Addr} {v : Value} (C : OwC p Z s m meth c own nm bytes maxL ret) (X : Stand p l e R s m args below meth c T locs cells slots) (eT : T.heap = h) (w : (Jvm.Cond.fieldLink own index O n d).before a0 Z = true) (F : Fld Z h a O n d v)
    (hd : decode bytes pc = .ok (.getfield index, 3)) (hp : pc + 3 = pc') (k : ∀ T', Stand p l e R s m args below meth c T' locs cells slots → T'.heap = h → OwF p e below D T' (mkF m pc' Ls (v :: r))) : OwF p e below D T (mkF m pc Ls (.ref a :: r)) := by
  subst hp
  obtain ⟨T', X', e', st⟩ := getF X C.1 C.2.2.2.2.2.2.2 C.2.2.2.1 (host := "") (Or.inl w) Via.refl eT F (g := mkF m pc Ls (.ref a :: r)) rfl rfl (hb C.2.1 hd)
  exact OwF.st st (k T' X' e')
theorem ow_putF {O n d K : String} {index kk : Nat} {ty : FieldType} {a : Addr} {v old : Value} (C : OwC p Z s m meth c own nm bytes maxL ret) (X : Stand p l e R s m args below meth c T locs cells slots) (eT : T.heap = h) (w : (Jvm.Cond.fieldLink own index O n d).before a0 Z = true) (F : Fld Z h a O n d old) (E : Exa Z h a K)
    (L : (Jvm.Cond.lays K O n d).before a0 Z = true ∨ ((Jvm.Cond.laysFinal K O n d).before a0 Z = true ∧ own = O ∧ nm = "<init>")) (wi : (Jvm.Cond.instantiable K kk).before a0 Z = true) (hty : parseFieldDescriptor d = some ty) (hn : narrow ty v = v) (hf : fits ty v = true)
    (hd : decode bytes pc = .ok (.putfield index, 3)) (hp : pc + 3 = pc')
    (k : ∀ T' h', Stand p l e R s m args below meth c T' (locs ++ [⟨a, Jvm.RoadKit.slotOf Z O n d⟩]) cells slots → T'.heap = h' → Wr h h' a (Jvm.RoadKit.slotOf Z O n d) v → OwF p e below D T' (mkF m pc' Ls r)) : OwF p e below D T (mkF m pc Ls (v :: .ref a :: r)) := by
  subst hp
  obtain ⟨T', h', X', e', W', st⟩ := putF X C.1 C.2.2.2.2.2.2.2 C.2.2.2.1 (host := "") (Or.inl w) Via.refl eT F E (L.imp id fun q => ⟨q.1, q.2.1, C.2.2.2.2.1.trans q.2.2⟩) wi hty hn hf (g := mkF m pc Ls (v :: .ref a :: r)) rfl rfl (hb C.2.1 hd)
  exact OwF.st st (k T' h' X' e' W')
theorem ow_getS {O n d : String} {index : Nat} {v : Value} (C : OwC p Z s m meth c own nm bytes maxL ret) (X : Stand p l e R s m args below meth c T locs cells slots) (eT : T.heap = h) (w : (Jvm.Cond.fieldLink own index O n d).before a0 Z = true) (F : Sta Z h O n d v)
    (hd : decode bytes pc = .ok (.getstatic index, 3)) (hp : pc + 3 = pc') (k : ∀ T', Stand p l e R s m args below meth c T' locs cells slots → T'.heap = h → OwF p e below D T' (mkF m pc' Ls (v :: r))) : OwF p e below D T (mkF m pc Ls r) := by
  subst hp
  obtain ⟨T', X', e', st⟩ := getS X C.1 C.2.2.2.2.2.2.2 C.2.2.2.1 (host := "") w Via.refl eT F (g := mkF m pc Ls r) rfl (hb C.2.1 hd)
  exact OwF.st st (k T' X' e')
theorem ow_new {K : String} {index n : Nat} (C : OwC p Z s m meth c own nm bytes maxL ret) (X : Stand p l e R s m args below meth c T locs cells slots) (eT : T.heap = h) (w : (Jvm.Cond.classLink own index K).before a0 Z = true) (wi : (Jvm.Cond.instantiable K n).before a0 Z = true) (wz : (Jvm.Cond.initialized K).before a0 Z = true)
    (hd : decode bytes pc = .ok (.new index, 3)) (hc : cells + 1 ≤ R.cells) (hl : slots + n ≤ R.slots) (hp : pc + 3 = pc')
    (k : ∀ T' h' a, a = h.size → Stand p l e R s m args below meth c T' locs (cells + 1) (slots + n) → T'.heap = h' → Ext h h' → Exa Z h' a K → (∀ {O nm d : String} {ty : FieldType}, Laid Z a0 K O nm d → parseFieldDescriptor d = some ty → Fld Z h' a O nm d (defaultValue ty)) → OwF p e below D T' (mkF m pc' Ls (.ref a :: r))) : OwF p e below D T (mkF m pc Ls r) := by
  subst hp
  obtain ⟨T', h', X', e', E', A', D', -, st⟩ := newO X C.1 C.2.2.2.2.2.2.2 C.2.2.2.1 w wi wz eT (g := mkF m pc Ls r) rfl (hb C.2.1 hd) hc hl
  exact OwF.st st (k T' h' _ rfl X' e' E' A' D')
theorem ow_initO {index : Nat} {a : Addr} (C : OwC p Z s m meth c own nm bytes maxL ret) (X : Stand p l e R s m args below meth c T locs cells slots) (eT : T.heap = h) (w1 : (Jvm.Cond.methodLink own index Lib.objectInit).before a0 Z = true) (w2 : (Jvm.Cond.instanceMethod Lib.objectInit).before a0 Z = true)
    (w3 : (Jvm.Cond.code Lib.objectInit ⟨#[0xb1]⟩ 1 none).before a0 Z = true) (hsz : Ls.size = maxL) (hd : decode bytes pc = .ok (.invokespecial index, 3)) (hf : 1 ≤ R.frames) (hl : owCat r + 12 ≤ R.locals) (hp : pc + 3 = pc')
    (k : ∀ T', Stand p l e R s m args below meth c T' locs cells slots → T'.heap = h → OwF p e below D T' (mkF m pc' Ls r)) : OwF p e below D T (mkF m pc Ls (.ref a :: r)) := by
  subst hp
  obtain ⟨T', X', e', st⟩ := initO X C.1 C.2.2.2.2.2.2.2 C.2.2.2.1 w1 w2 w3 eT (g := mkF m pc Ls (.ref a :: r)) rfl (by rw [C.2.2.1]; exact hsz) rfl (hb C.2.1 hd) hf (W := owCat r) (by show 2 * 0 + owCat r ≤ owCat r; omega) hl
  exact OwF.st st (k T' X' e')
/-- a static method by its contract -/
theorem ow_callS {index : Nat} {y : MethodName} {by' : ByteArray} {mx : Nat} {rt : Option FieldType} {rm : Room} {Q : Option Value → Heap → List Loc → Prop} {stk argsL rest : List Value} {ps : List FieldType} {pr : Option FieldType}
    (C : OwC p Z s m meth c own nm bytes maxL ret) (X : Stand p l e R s m args below meth c T locs cells slots) (eT : T.heap = h)
    (w1 : (Jvm.Cond.methodLink own index y).before a0 Z = true) (w2 : (Jvm.Cond.static y).before a0 Z = true) (w3 : (Jvm.Cond.initialized y.cls).before a0 Z = true) (w4 : (Jvm.Cond.code y by' mx rt).before a0 Z = true) (hy : y.cls ≠ "java/lang/invoke/MethodHandle" ∧ y.cls ≠ "java/lang/invoke/VarHandle")
    (M : OwCon l y by' mx rt rm Z argsL.toArray h Q) (hds : parseMethodDescriptor y.desc = some ⟨ps, pr⟩) (hln : argsL.length = ps.length) (hst : stk = argsL.reverse ++ rest) (hsz : Ls.size = maxL)
    (hd : decode bytes pc = .ok (.invokestatic index, 3)) (hfr : rm.frames + 1 ≤ R.frames) (hlo : owCat rest + (mx + 11) + rm.locals ≤ R.locals) (hcl : cells + rm.cells ≤ R.cells) (hsl : slots + rm.slots ≤ R.slots) (hp : pc + 3 = pc')
    (k : ∀ T' v L, Stand p l e R s m args below meth c T' (locs ++ L) (cells + rm.cells) (slots + rm.slots) → Q v T'.heap L → OwF p e below D T' (mkF m pc' Ls (v.toList ++ rest))) : OwF p e below D T (mkF m pc Ls stk) := by
  subst hp; subst hst
  have hZ := C.2.2.2.2.2.2.2
  obtain ⟨v, _, ⟨T', L', k', n'⟩, -, X', ⟨Lc, hQ, l', y', z'⟩, st⟩ := Jvm.LawKit.callS X C.1 (y := y) C.2.2.2.1 (mvT hZ w1) (mvT hZ w2) (mvT hZ w3) (mvT hZ w4) hy (backOf (W := owCat rest) (M []) hZ w4 w3 hfr hlo) (g := mkF m pc Ls (argsL.reverse ++ rest)) rfl (by rw [C.2.2.1]; exact hsz) (argsL := argsL) (rest := rest) (lenOf hds hln) rfl (by show 2 * 0 + owCat rest ≤ owCat rest; omega) (hb C.2.1 hd) (fun _ _ => ⟨rfl, eT, hcl, hsl⟩)
  dsimp only [Pt.U, Pt.locs, Pt.cells, Pt.slots] at X' l' y' z' st hQ
  subst l' y' z'
  exact OwF.st st (k T' v Lc X' hQ)
/-- a constructor by its contract -/
theorem ow_callN {index : Nat} {y : MethodName} {by' : ByteArray} {mx : Nat} {rm : Room} {Q : Option Value → Heap → List Loc → Prop} {stk argsL rest : List Value} {ps : List FieldType} {pr : Option FieldType} {a : Addr}
    (C : OwC p Z s m meth c own nm bytes maxL ret) (X : Stand p l e R s m args below meth c T locs cells slots) (eT : T.heap = h) (hni : y.name = "<init>")
    (w1 : (Jvm.Cond.methodLink own index y).before a0 Z = true) (w2 : (Jvm.Cond.instanceMethod y).before a0 Z = true) (w3 : (Jvm.Cond.initialized y.cls).before a0 Z = true) (w4 : (Jvm.Cond.code y by' mx none).before a0 Z = true) (hy : y.cls ≠ "java/lang/invoke/MethodHandle" ∧ y.cls ≠ "java/lang/invoke/VarHandle")
    (M : OwCon l y by' mx none rm Z (.ref a :: argsL).toArray h Q) (hds : parseMethodDescriptor y.desc = some ⟨ps, pr⟩) (hln : argsL.length = ps.length) (hst : stk = argsL.reverse ++ .ref a :: rest) (hsz : Ls.size = maxL)
    (hd : decode bytes pc = .ok (.invokespecial index, 3)) (hfr : rm.frames + 1 ≤ R.frames) (hlo : owCat rest + (mx + 11) + rm.locals ≤ R.locals) (hcl : cells + rm.cells ≤ R.cells) (hsl : slots + rm.slots ≤ R.slots) (hp : pc + 3 = pc')
    (k : ∀ T' v L, Stand p l e R s m args below meth c T' (locs ++ L) (cells + rm.cells) (slots + rm.slots) → Q v T'.heap L → OwF p e below D T' (mkF m pc' Ls (v.toList ++ rest))) : OwF p e below D T (mkF m pc Ls stk) := by
  subst hp; subst hst
  have hZ := C.2.2.2.2.2.2.2
  obtain ⟨v, _, ⟨T', L', k', n'⟩, -, X', ⟨Lc, hQ, l', y', z'⟩, st⟩ := X.specialBack C.1 (y := y) hni C.2.2.2.1 (mvT hZ w1) (mvT hZ w2) (mvT hZ w4) hy (backOf (W := owCat rest) (M []) hZ w4 w3 hfr hlo) (g := mkF m pc Ls (argsL.reverse ++ .ref a :: rest)) rfl (by rw [C.2.2.1]; exact hsz) (Steps.refl _) (a := a) (argsL := argsL) (rest := rest) (lenOf hds hln) rfl (by show 2 * 0 + owCat rest ≤ owCat rest; omega) (hb C.2.1 hd) (fun _ _ => ⟨rfl, eT, hcl, hsl⟩)
  dsimp only [Pt.U, Pt.locs, Pt.cells, Pt.slots] at X' l' y' z' st hQ
  subst l' y' z'
  exact OwF.st (fun _ q => st.trans q) (k T' v Lc X' hQ)
/-- an instance method by its contract -/
theorem ow_callV {K : String} {index : Nat} {y : MethodName} {by' : ByteArray} {mx : Nat} {rt : Option FieldType} {rm : Room} {Q : Option Value → Heap → List Loc → Prop} {stk argsL rest : List Value} {ps : List FieldType} {pr : Option FieldType} {a : Addr}
    (C : OwC p Z s m meth c own nm bytes maxL ret) (X : Stand p l e R s m args below meth c T locs cells slots) (eT : T.heap = h)
    (w1 : (Jvm.Cond.methodLink own index y).before a0 Z = true) (w2 : (Jvm.Cond.declares y).before a0 Z = true) (w5 : (Jvm.Cond.selects K y y).before a0 Z = true) (hK : K = y.cls) (w6 : (Jvm.Cond.instanceMethod y).before a0 Z = true) (w3 : (Jvm.Cond.initialized y.cls).before a0 Z = true) (w4 : (Jvm.Cond.code y by' mx rt).before a0 Z = true)
    (hy : y.cls ≠ "java/lang/invoke/MethodHandle" ∧ y.cls ≠ "java/lang/invoke/VarHandle") (E : Exa Z h a K)
    (M : OwCon l y by' mx rt rm Z (.ref a :: argsL).toArray h Q) (hds : parseMethodDescriptor y.desc = some ⟨ps, pr⟩) (hln : argsL.length = ps.length) (hst : stk = argsL.reverse ++ .ref a :: rest) (hsz : Ls.size = maxL)
    (hd : decode bytes pc = .ok (.invokevirtual index, 3)) (hfr : rm.frames + 1 ≤ R.frames) (hlo : owCat rest + (mx + 11) + rm.locals ≤ R.locals) (hcl : cells + rm.cells ≤ R.cells) (hsl : slots + rm.slots ≤ R.slots) (hp : pc + 3 = pc')
    (k : ∀ T' v L, Stand p l e R s m args below meth c T' (locs ++ L) (cells + rm.cells) (slots + rm.slots) → Q v T'.heap L → OwF p e below D T' (mkF m pc' Ls (v.toList ++ rest))) : OwF p e below D T (mkF m pc Ls stk) := by
  subst hp; subst hst; subst hK
  have hZ := C.2.2.2.2.2.2.2
  obtain ⟨cq, kq, q1, q2, q3⟩ := isOf hZ eT E
  obtain ⟨v, _, ⟨T', L', k', n'⟩, -, X', ⟨Lc, hQ, l', y', z'⟩, st⟩ := X.virtualBack C.1 (y := y) (z := y) C.2.2.2.1 (mvT hZ w1) (mvT hZ w2) (notFace_of_selects (args := #[]) (mvT hZ w5)) (mvT hZ w5) (mvT hZ w6) hy (backOf (W := owCat rest) (M []) hZ w4 w3 hfr hlo) q1 q3 (g := mkF m pc Ls (argsL.reverse ++ .ref a :: rest)) rfl (by rw [C.2.2.1]; exact hsz) (Steps.refl _) (argsL := argsL) (rest := rest) (lenOf hds hln) rfl (by show 2 * 0 + owCat rest ≤ owCat rest; omega) (hb C.2.1 hd) (fun _ _ => ⟨rfl, eT, hcl, hsl⟩)
  dsimp only [Pt.U, Pt.locs, Pt.cells, Pt.slots] at X' l' y' z' st hQ
  subst l' y' z'
  exact OwF.st (fun _ q => st.trans q) (k T' v Lc X' hQ)
/-- a pure answer: the value, nothing written, the heap as it was -/
abbrev OwP (v : Option Value) (h : Heap) (v' : Option Value) (h' : Heap) (L : List Loc) : Prop := v' = v ∧ L = [] ∧ h' = h
/-- a pure static method -/
theorem ow_callSP {index : Nat} {y : MethodName} {by' : ByteArray} {mx : Nat} {rt : Option FieldType} {rm : Room} {v : Value} {stk argsL rest : List Value} {ps : List FieldType} {pr : Option FieldType}
    (C : OwC p Z s m meth c own nm bytes maxL ret) (X : Stand p l e R s m args below meth c T locs cells slots) (eT : T.heap = h)
    (w1 : (Jvm.Cond.methodLink own index y).before a0 Z = true) (w2 : (Jvm.Cond.static y).before a0 Z = true) (w3 : (Jvm.Cond.initialized y.cls).before a0 Z = true) (w4 : (Jvm.Cond.code y by' mx rt).before a0 Z = true) (hy : y.cls ≠ "java/lang/invoke/MethodHandle" ∧ y.cls ≠ "java/lang/invoke/VarHandle")
    (M : OwCon l y by' mx rt rm Z argsL.toArray h (OwP (some v) h)) (hrm : rm.cells = 0 ∧ rm.slots = 0) (hds : parseMethodDescriptor y.desc = some ⟨ps, pr⟩) (hln : argsL.length = ps.length) (hst : stk = argsL.reverse ++ rest) (hsz : Ls.size = maxL)
    (hd : decode bytes pc = .ok (.invokestatic index, 3)) (hfr : rm.frames + 1 ≤ R.frames) (hlo : owCat rest + (mx + 11) + rm.locals ≤ R.locals) (hcl : cells ≤ R.cells) (hsl : slots ≤ R.slots) (hp : pc + 3 = pc')
    (k : ∀ T', Stand p l e R s m args below meth c T' locs cells slots → T'.heap = h → OwF p e below D T' (mkF m pc' Ls (v :: rest))) : OwF p e below D T (mkF m pc Ls stk) := by
  refine ow_callS C X eT w1 w2 w3 w4 hy M hds hln hst hsz hd hfr hlo (by rw [hrm.1]; exact hcl) (by rw [hrm.2]; exact hsl) hp fun T' v' L' X' hQ => ?_
  obtain ⟨rfl, rfl, hh⟩ := hQ
  rw [hrm.1, hrm.2, List.append_nil] at X'
  exact k T' X' hh
/-- a pure instance method -/
theorem ow_callVP {K : String} {index : Nat} {y : MethodName} {by' : ByteArray} {mx : Nat} {rt : Option FieldType} {rm : Room} {v : Value} {stk argsL rest : List Value} {ps : List FieldType} {pr : Option FieldType} {a : Addr}
    (C : OwC p Z s m meth c own nm bytes maxL ret) (X : Stand p l e R s m args below meth c T locs cells slots) (eT : T.heap = h)
    (w1 : (Jvm.Cond.methodLink own index y).before a0 Z = true) (w2 : (Jvm.Cond.declares y).before a0 Z = true) (w5 : (Jvm.Cond.selects K y y).before a0 Z = true) (hK : K = y.cls) (w6 : (Jvm.Cond.instanceMethod y).before a0 Z = true) (w3 : (Jvm.Cond.initialized y.cls).before a0 Z = true) (w4 : (Jvm.Cond.code y by' mx rt).before a0 Z = true)
    (hy : y.cls ≠ "java/lang/invoke/MethodHandle" ∧ y.cls ≠ "java/lang/invoke/VarHandle") (E : Exa Z h a K)
    (M : OwCon l y by' mx rt rm Z (.ref a :: argsL).toArray h (OwP (some v) h)) (hrm : rm.cells = 0 ∧ rm.slots = 0) (hds : parseMethodDescriptor y.desc = some ⟨ps, pr⟩) (hln : argsL.length = ps.length) (hst : stk = argsL.reverse ++ .ref a :: rest) (hsz : Ls.size = maxL)
    (hd : decode bytes pc = .ok (.invokevirtual index, 3)) (hfr : rm.frames + 1 ≤ R.frames) (hlo : owCat rest + (mx + 11) + rm.locals ≤ R.locals) (hcl : cells ≤ R.cells) (hsl : slots ≤ R.slots) (hp : pc + 3 = pc')
    (k : ∀ T', Stand p l e R s m args below meth c T' locs cells slots → T'.heap = h → OwF p e below D T' (mkF m pc' Ls (v :: rest))) : OwF p e below D T (mkF m pc Ls stk) := by
  refine ow_callV C X eT w1 w2 w5 hK w6 w3 w4 hy E M hds hln hst hsz hd hfr hlo (by rw [hrm.1]; exact hcl) (by rw [hrm.2]; exact hsl) hp fun T' v' L' X' hQ => ?_
  obtain ⟨rfl, rfl, hh⟩ := hQ
  rw [hrm.1, hrm.2, List.append_nil] at X'
  exact k T' X' hh
/-- a constructor that leaves all as it is -/
theorem ow_callNP {index : Nat} {y : MethodName} {by' : ByteArray} {mx : Nat} {rm : Room} {stk argsL rest : List Value} {ps : List FieldType} {pr : Option FieldType} {a : Addr}
    (C : OwC p Z s m meth c own nm bytes maxL ret) (X : Stand p l e R s m args below meth c T locs cells slots) (eT : T.heap = h) (hni : y.name = "<init>")
    (w1 : (Jvm.Cond.methodLink own index y).before a0 Z = true) (w2 : (Jvm.Cond.instanceMethod y).before a0 Z = true) (w3 : (Jvm.Cond.initialized y.cls).before a0 Z = true) (w4 : (Jvm.Cond.code y by' mx none).before a0 Z = true) (hy : y.cls ≠ "java/lang/invoke/MethodHandle" ∧ y.cls ≠ "java/lang/invoke/VarHandle")
    (M : OwCon l y by' mx none rm Z (.ref a :: argsL).toArray h (OwP none h)) (hrm : rm.cells = 0 ∧ rm.slots = 0) (hds : parseMethodDescriptor y.desc = some ⟨ps, pr⟩) (hln : argsL.length = ps.length) (hst : stk = argsL.reverse ++ .ref a :: rest) (hsz : Ls.size = maxL)
    (hd : decode bytes pc = .ok (.invokespecial index, 3)) (hfr : rm.frames + 1 ≤ R.frames) (hlo : owCat rest + (mx + 11) + rm.locals ≤ R.locals) (hcl : cells ≤ R.cells) (hsl : slots ≤ R.slots) (hp : pc + 3 = pc')
    (k : ∀ T', Stand p l e R s m args below meth c T' locs cells slots → T'.heap = h → OwF p e below D T' (mkF m pc' Ls rest)) : OwF p e below D T (mkF m pc Ls stk) := by
  refine ow_callN C X eT hni w1 w2 w3 w4 hy M hds hln hst hsz hd hfr hlo (by rw [hrm.1]; exact hcl) (by rw [hrm.2]; exact hsl) hp fun T' v' L' X' hQ => ?_
  obtain ⟨rfl, rfl, hh⟩ := hQ
  rw [hrm.1, hrm.2, List.append_nil] at X'
  exact k T' X' hh
end OwnObj
section OwnArr
variable {p : Program} {l : Launch} {e : Env} {R : Room} {s : State} {m : MethodId} {args : Array Value} {below : List Frame} {meth : Method} {c : Code} {T : State} {locs : List Loc} {cells slots : Nat} {Z : State} {a0 : Array Value} {h h' : Heap}
variable {own nm : String} {bytes : ByteArray} {maxL : Nat} {ret : Option FieldType} {D : State → Outcome → Prop} {pc pc' pcT : Nat} {Ls Ls' : Array Slot} {r : List Value}
variable {a b : Addr} {ty : FieldType} {n i : Nat} {f g : Nat → Value} {v : Value} {sl : Nat} {ws : List Addr} {K : String} {kk : Nat}
/-- an array of n places, place j holds f j -/
def OwA (Z : State) (h : Heap) (a : Addr) (ty : FieldType) (n : Nat) (f : Nat → Value) : Prop := ∃ c : Cell, Arr Z h a c ty ∧ c.slots.size = n ∧ ∀ j, j < n → c.slots[j]? = some (f j)
theorem OwA.lt (A : OwA Z h a ty n f) : a < h.size := by obtain ⟨c, A, -⟩ := A; exact A.lt
theorem OwA.ext (A : OwA Z h a ty n f) (E : Ext h h') : OwA Z h' a ty n f := by obtain ⟨c, A, r⟩ := A; exact ⟨c, A.ext E, r⟩
theorem OwA.other (A : OwA Z h b ty n f) (W : Wr h h' a sl v) (q : b ≠ a) : OwA Z h' b ty n f := by obtain ⟨c, A, r⟩ := A; exact ⟨c, A.other W q, r⟩
theorem OwA.keep (A : OwA Z h a ty n f) (K : Keep h h' ws) (q : a ∉ ws) : OwA Z h' a ty n f := by obtain ⟨c, A, r⟩ := A; exact ⟨c, ⟨K.2.1 a c A.1 q, A.2⟩, r⟩
theorem OwA.congr (A : OwA Z h a ty n f) (q : ∀ j, j < n → f j = g j) : OwA Z h a ty n g := by obtain ⟨c, A, S, H⟩ := A; exact ⟨c, A, S, fun j hj => by rw [← q j hj]; exact H j hj⟩
theorem OwA.set (A : OwA Z h a ty n f) (W : Wr h h' a i v) : OwA Z h' a ty n (fun j => if j = i then v else f j) := by
  obtain ⟨c, A, S, H⟩ := A
  refine ⟨c.setSlot i v, A.same W, by rw [sz_set]; exact S, fun j hj => ?_⟩
  show (c.slots.setIfInBounds i v)[j]? = some (if j = i then v else f j)
  by_cases q : j = i
  · subst q
    rw [if_pos rfl, Array.getElem?_setIfInBounds_self_of_lt (by omega)]
  · rw [if_neg q, Array.getElem?_setIfInBounds_ne (fun w => q w.symm)]; exact H j hj
theorem OwA.new {k : ClassId} {z : Int32} (A : Arr Z h a (newA k ty z) ty) : OwA Z h a ty z.toNatClampNeg (fun _ => defaultValue ty) := by
  refine ⟨_, A, sz_new _ _ _, fun j hj => ?_⟩
  show (Array.replicate z.toNatClampNeg (defaultValue ty))[j]? = _
  rw [Array.getElem?_replicate, if_pos hj]
theorem OwA.ne (A : OwA Z h b ty n f) (E : Exa Z h a K) (wi : (Jvm.Cond.instantiable K kk).before a0 Z = true) : a ≠ b := by obtain ⟨c, A, -⟩ := A; exact ne_arr E wi A
theorem ow_newarr {aty : ArrayType} {z : Int32} {N cap : Nat} (C : OwC p Z s m meth c own nm bytes maxL ret) (X : Stand p l e R s m args below meth c T locs cells slots) (eT : T.heap = h) (w : (Jvm.Cond.arrayClass (newarray.typeOf aty)).before a0 Z = true) (hd : decode bytes pc = .ok (.newarray aty, 2))
    (hn : ¬ z < 0) (hN : z.toNatClampNeg = N) (hcap : N ≤ cap) (hb8 : cap * 8 ≤ 536870912) (hc : cells + 1 ≤ R.cells) (hl : slots + cap ≤ R.slots) (hp : pc + 2 = pc')
    (k : ∀ T' h' a, a = h.size → Stand p l e R s m args below meth c T' locs (cells + 1) (slots + cap) → T'.heap = h' → Ext h h' → OwA Z h' a (newarray.typeOf aty) N (fun _ => defaultValue (newarray.typeOf aty)) → OwF p e below D T' (mkF m pc' Ls (.ref a :: r))) : OwF p e below D T (mkF m pc Ls (.int z :: r)) := by
  subst hp; subst hN
  obtain ⟨T', h', cA, X', e', E', A', st⟩ := newP X C.1 C.2.2.2.2.2.2.2 w eT (g := mkF m pc Ls (.int z :: r)) rfl (hb C.2.1 hd) rfl hn hcap hb8 hc hl
  exact OwF.st st (k T' h' _ rfl X' e' E' (OwA.new A'))
theorem ow_arraylength {z : Int32} (C : OwC p Z s m meth c own nm bytes maxL ret) (X : Stand p l e R s m args below meth c T locs cells slots) (eT : T.heap = h) (A : OwA Z h a ty n f) (hz : n.toInt32 = z) (hd : decode bytes pc = .ok (.arraylength, 1)) (hp : pc + 1 = pc')
    (k : OwF p e below D T (mkF m pc' Ls (.int z :: r))) : OwF p e below D T (mkF m pc Ls (.ref a :: r)) := by
  subst hp; subst hz
  obtain ⟨cl, A, S, -⟩ := A
  subst S
  exact OwF.st (fun t q => X.arraylength C.1 (by rw [eT]; exact A.1) (State.isArrayOf_alike C.2.2.2.2.2.2.2.alike A.2.1) (g := mkF m pc Ls (.ref a :: r)) rfl rfl (hb C.2.1 hd) t q) k
theorem ow_iaload {z : Int32} (C : OwC p Z s m meth c own nm bytes maxL ret) (X : Stand p l e R s m args below meth c T locs cells slots) (eT : T.heap = h) (A : OwA Z h a .int n f) (h0 : ¬ z < 0) (hj : z.toNatClampNeg = i) (hlt : i < n) (hv : f i = v) (hd : decode bytes pc = .ok (.iaload, 1)) (hp : pc + 1 = pc')
    (k : OwF p e below D T (mkF m pc' Ls (v :: r))) : OwF p e below D T (mkF m pc Ls (.int z :: .ref a :: r)) := by
  subst hp; subst hj; subst hv
  obtain ⟨cl, A, S, H⟩ := A
  exact OwF.st (fun t q => X.iaload C.1 (by rw [eT]; exact A.1) (State.isArrayOf_alike C.2.2.2.2.2.2.2.alike A.2.1) A.2.2 (fun w => w.elim h0 (fun w => by omega)) (H _ hlt) (g := mkF m pc Ls (.int z :: .ref a :: r)) rfl rfl (hb C.2.1 hd) t q) k
theorem ow_laload {z : Int32} (C : OwC p Z s m meth c own nm bytes maxL ret) (X : Stand p l e R s m args below meth c T locs cells slots) (eT : T.heap = h) (A : OwA Z h a .long n f) (h0 : ¬ z < 0) (hj : z.toNatClampNeg = i) (hlt : i < n) (hv : f i = v) (hd : decode bytes pc = .ok (.laload, 1)) (hp : pc + 1 = pc')
    (k : OwF p e below D T (mkF m pc' Ls (v :: r))) : OwF p e below D T (mkF m pc Ls (.int z :: .ref a :: r)) := by
  subst hp; subst hj; subst hv
  obtain ⟨cl, A, S, H⟩ := A
  exact OwF.st (fun t q => X.laload C.1 (by rw [eT]; exact A.1) (State.isArrayOf_alike C.2.2.2.2.2.2.2.alike A.2.1) A.2.2 (fun w => w.elim h0 (fun w => by omega)) (H _ hlt) (g := mkF m pc Ls (.int z :: .ref a :: r)) rfl rfl (hb C.2.1 hd) t q) k
theorem ow_caload {z : Int32} (C : OwC p Z s m meth c own nm bytes maxL ret) (X : Stand p l e R s m args below meth c T locs cells slots) (eT : T.heap = h) (A : OwA Z h a .char n f) (h0 : ¬ z < 0) (hj : z.toNatClampNeg = i) (hlt : i < n) (hv : f i = v) (hd : decode bytes pc = .ok (.caload, 1)) (hp : pc + 1 = pc')
    (k : OwF p e below D T (mkF m pc' Ls (v :: r))) : OwF p e below D T (mkF m pc Ls (.int z :: .ref a :: r)) := by
  subst hp; subst hj; subst hv
  obtain ⟨cl, A, S, H⟩ := A
  exact OwF.st (fun t q => X.caload C.1 (by rw [eT]; exact A.1) (State.isArrayOf_alike C.2.2.2.2.2.2.2.alike A.2.1) A.2.2 (fun w => w.elim h0 (fun w => by omega)) (H _ hlt) (g := mkF m pc Ls (.int z :: .ref a :: r)) rfl rfl (hb C.2.1 hd) t q) k
theorem ow_saload {z : Int32} (C : OwC p Z s m meth c own nm bytes maxL ret) (X : Stand p l e R s m args below meth c T locs cells slots) (eT : T.heap = h) (A : OwA Z h a .short n f) (h0 : ¬ z < 0) (hj : z.toNatClampNeg = i) (hlt : i < n) (hv : f i = v) (hd : decode bytes pc = .ok (.saload, 1)) (hp : pc + 1 = pc')
    (k : OwF p e below D T (mkF m pc' Ls (v :: r))) : OwF p e below D T (mkF m pc Ls (.int z :: .ref a :: r)) := by
  subst hp; subst hj; subst hv
  obtain ⟨cl, A, S, H⟩ := A
  exact OwF.st (fun t q => X.saload C.1 (by rw [eT]; exact A.1) (State.isArrayOf_alike C.2.2.2.2.2.2.2.alike A.2.1) A.2.2 (fun w => w.elim h0 (fun w => by omega)) (H _ hlt) (g := mkF m pc Ls (.int z :: .ref a :: r)) rfl rfl (hb C.2.1 hd) t q) k
theorem ow_aaload {z : Int32} (C : OwC p Z s m meth c own nm bytes maxL ret) (X : Stand p l e R s m args below meth c T locs cells slots) (eT : T.heap = h) (A : OwA Z h a ty n f) (hty : ty.isReference = true) (h0 : ¬ z < 0) (hj : z.toNatClampNeg = i) (hlt : i < n) (hv : f i = v) (hd : decode bytes pc = .ok (.aaload, 1)) (hp : pc + 1 = pc')
    (k : OwF p e below D T (mkF m pc' Ls (v :: r))) : OwF p e below D T (mkF m pc Ls (.int z :: .ref a :: r)) := by
  subst hp; subst hj; subst hv
  obtain ⟨cl, A, S, H⟩ := A
  exact OwF.st (fun t q => X.aaload C.1 (by rw [eT]; exact A.1) (State.isArrayOf_alike C.2.2.2.2.2.2.2.alike A.2.1) hty A.2.2 (fun w => w.elim h0 (fun w => by omega)) (H _ hlt) (g := mkF m pc Ls (.int z :: .ref a :: r)) rfl rfl (hb C.2.1 hd) t q) k
theorem ow_baload {z : Int32} (C : OwC p Z s m meth c own nm bytes maxL ret) (X : Stand p l e R s m args below meth c T locs cells slots) (eT : T.heap = h) (A : OwA Z h a .byte n f) (h0 : ¬ z < 0) (hj : z.toNatClampNeg = i) (hlt : i < n) (hv : f i = v) (hd : decode bytes pc = .ok (.baload, 1)) (hp : pc + 1 = pc')
    (k : OwF p e below D T (mkF m pc' Ls (v :: r))) : OwF p e below D T (mkF m pc Ls (.int z :: .ref a :: r)) := by
  subst hp; subst hj; subst hv
  obtain ⟨cl, A, S, H⟩ := A
  exact OwF.st (fun t q => X.baloadBytes C.1 (by rw [eT]; exact A.1) (State.isArrayOf_alike C.2.2.2.2.2.2.2.alike A.2.1) A.2.2 (fun w => w.elim h0 (fun w => by omega)) (H _ hlt) (g := mkF m pc Ls (.int z :: .ref a :: r)) rfl rfl (hb C.2.1 hd) t q) k
theorem ow_iastore {z : Int32} {x : Int32} (C : OwC p Z s m meth c own nm bytes maxL ret) (X : Stand p l e R s m args below meth c T locs cells slots) (eT : T.heap = h) (A : OwA Z h a .int n f) (h0 : ¬ z < 0) (hj : z.toNatClampNeg = i) (hlt : i < n) (hd : decode bytes pc = .ok (.iastore, 1)) (hp : pc + 1 = pc')
    (k : ∀ T' h', Stand p l e R s m args below meth c T' (locs ++ [⟨a, i⟩]) cells slots → T'.heap = h' → Wr h h' a i (.int x) → OwF p e below D T' (mkF m pc' Ls r)) : OwF p e below D T (mkF m pc Ls (.int x :: .int z :: .ref a :: r)) := by
  subst hp; subst hj
  obtain ⟨cl, A, S, H⟩ := A
  obtain ⟨T', h', X', e', W', st⟩ := stI X C.1 C.2.2.2.2.2.2.2 eT A (j := z) (x := x) (fun w => w.elim h0 (fun w => by omega)) (g := mkF m pc Ls (.int x :: .int z :: .ref a :: r)) rfl rfl (hb C.2.1 hd)
  exact OwF.st st (k T' h' X' e' W')
theorem ow_lastore {z : Int32} {x : Int64} (C : OwC p Z s m meth c own nm bytes maxL ret) (X : Stand p l e R s m args below meth c T locs cells slots) (eT : T.heap = h) (A : OwA Z h a .long n f) (h0 : ¬ z < 0) (hj : z.toNatClampNeg = i) (hlt : i < n) (hd : decode bytes pc = .ok (.lastore, 1)) (hp : pc + 1 = pc')
    (k : ∀ T' h', Stand p l e R s m args below meth c T' (locs ++ [⟨a, i⟩]) cells slots → T'.heap = h' → Wr h h' a i (.long x) → OwF p e below D T' (mkF m pc' Ls r)) : OwF p e below D T (mkF m pc Ls (.long x :: .int z :: .ref a :: r)) := by
  subst hp; subst hj
  obtain ⟨cl, A, S, H⟩ := A
  obtain ⟨T', h', X', e', W', st⟩ := stJ X C.1 C.2.2.2.2.2.2.2 eT A (j := z) (x := x) (fun w => w.elim h0 (fun w => by omega)) (g := mkF m pc Ls (.long x :: .int z :: .ref a :: r)) rfl rfl (hb C.2.1 hd)
  exact OwF.st st (k T' h' X' e' W')
theorem ow_castore {z : Int32} {x : Int32} (C : OwC p Z s m meth c own nm bytes maxL ret) (X : Stand p l e R s m args below meth c T locs cells slots) (eT : T.heap = h) (A : OwA Z h a .char n f) (h0 : ¬ z < 0) (hj : z.toNatClampNeg = i) (hlt : i < n) (hd : decode bytes pc = .ok (.castore, 1)) (hp : pc + 1 = pc')
    (k : ∀ T' h', Stand p l e R s m args below meth c T' (locs ++ [⟨a, i⟩]) cells slots → T'.heap = h' → Wr h h' a i (.int (nar .char x)) → OwF p e below D T' (mkF m pc' Ls r)) : OwF p e below D T (mkF m pc Ls (.int x :: .int z :: .ref a :: r)) := by
  subst hp; subst hj
  obtain ⟨cl, A, S, H⟩ := A
  obtain ⟨T', h', X', e', W', st⟩ := stC X C.1 C.2.2.2.2.2.2.2 eT A (j := z) (x := x) (fun w => w.elim h0 (fun w => by omega)) (g := mkF m pc Ls (.int x :: .int z :: .ref a :: r)) rfl rfl (hb C.2.1 hd)
  exact OwF.st st (k T' h' X' e' W')
theorem ow_sastore {z : Int32} {x : Int32} (C : OwC p Z s m meth c own nm bytes maxL ret) (X : Stand p l e R s m args below meth c T locs cells slots) (eT : T.heap = h) (A : OwA Z h a .short n f) (h0 : ¬ z < 0) (hj : z.toNatClampNeg = i) (hlt : i < n) (hd : decode bytes pc = .ok (.sastore, 1)) (hp : pc + 1 = pc')
    (k : ∀ T' h', Stand p l e R s m args below meth c T' (locs ++ [⟨a, i⟩]) cells slots → T'.heap = h' → Wr h h' a i (.int (nar .short x)) → OwF p e below D T' (mkF m pc' Ls r)) : OwF p e below D T (mkF m pc Ls (.int x :: .int z :: .ref a :: r)) := by
  subst hp; subst hj
  obtain ⟨cl, A, S, H⟩ := A
  obtain ⟨T', h', X', e', W', st⟩ := stS X C.1 C.2.2.2.2.2.2.2 eT A (j := z) (x := x) (fun w => w.elim h0 (fun w => by omega)) (g := mkF m pc Ls (.int x :: .int z :: .ref a :: r)) rfl rfl (hb C.2.1 hd)
  exact OwF.st st (k T' h' X' e' W')
theorem ow_bastore {z : Int32} {x : Int32} (C : OwC p Z s m meth c own nm bytes maxL ret) (X : Stand p l e R s m args below meth c T locs cells slots) (eT : T.heap = h) (A : OwA Z h a .byte n f) (h0 : ¬ z < 0) (hj : z.toNatClampNeg = i) (hlt : i < n) (hd : decode bytes pc = .ok (.bastore, 1)) (hp : pc + 1 = pc')
    (k : ∀ T' h', Stand p l e R s m args below meth c T' (locs ++ [⟨a, i⟩]) cells slots → T'.heap = h' → Wr h h' a i (.int (nar .byte x)) → OwF p e below D T' (mkF m pc' Ls r)) : OwF p e below D T (mkF m pc Ls (.int x :: .int z :: .ref a :: r)) := by
  subst hp; subst hj
  obtain ⟨cl, A, S, H⟩ := A
  obtain ⟨T', h', X', e', W', st⟩ := stB X C.1 C.2.2.2.2.2.2.2 eT A (j := z) (x := x) (fun w => w.elim h0 (fun w => by omega)) (g := mkF m pc Ls (.int x :: .int z :: .ref a :: r)) rfl rfl (hb C.2.1 hd)
  exact OwF.st st (k T' h' X' e' W')
end OwnArr
theorem own_nm {a b : Addr} (h : a ≠ b) : a ∉ [b] := fun q => h (List.mem_singleton.mp q)
theorem d1_0 : decode prog_26_method_19_code 0 = .ok (.iload_n 0, 1) := by decide +kernel
theorem d1_1 : decode prog_26_method_19_code 1 = .ok (.bipush 32, 2) := by decide +kernel
theorem d1_3 : decode prog_26_method_19_code 3 = .ok (.if_icmp .gt 31, 3) := by decide +kernel
theorem d1_6 : decode prog_26_method_19_code 6 = .ok (.iload_n 0, 1) := by decide +kernel
theorem d1_7 : decode prog_26_method_19_code 7 = .ok (.bipush 32, 2) := by decide +kernel
theorem d1_9 : decode prog_26_method_19_code 9 = .ok (.if_icmp .eq 21, 3) := by decide +kernel
theorem d1_12 : decode prog_26_method_19_code 12 = .ok (.iload_n 0, 1) := by decide +kernel
theorem d1_13 : decode prog_26_method_19_code 13 = .ok (.bipush 10, 2) := by decide +kernel
theorem d1_15 : decode prog_26_method_19_code 15 = .ok (.if_icmp .eq 15, 3) := by decide +kernel
theorem d1_18 : decode prog_26_method_19_code 18 = .ok (.iload_n 0, 1) := by decide +kernel
theorem d1_19 : decode prog_26_method_19_code 19 = .ok (.bipush 9, 2) := by decide +kernel
theorem d1_21 : decode prog_26_method_19_code 21 = .ok (.if_icmp .eq 9, 3) := by decide +kernel
theorem d1_24 : decode prog_26_method_19_code 24 = .ok (.iload_n 0, 1) := by decide +kernel
theorem d1_25 : decode prog_26_method_19_code 25 = .ok (.bipush 13, 2) := by decide +kernel
theorem d1_27 : decode prog_26_method_19_code 27 = .ok (.if_icmp .ne 7, 3) := by decide +kernel
theorem d1_30 : decode prog_26_method_19_code 30 = .ok (.iconst 1, 1) := by decide +kernel
theorem d1_31 : decode prog_26_method_19_code 31 = .ok (.goto 4, 3) := by decide +kernel
theorem d1_34 : decode prog_26_method_19_code 34 = .ok (.iconst 0, 1) := by decide +kernel
theorem d1_35 : decode prog_26_method_19_code 35 = .ok (.ireturn, 1) := by decide +kernel
theorem pn_1 : plainFor (⟨"com/example/narrow_view/narrowview/DocumentDecoder", "isSpace", "(I)Z"⟩ : MethodName) = true := by first | exact plainFor_of_name (by first | (simp [plainName, overriddenIn]; done) | decide +kernel) | decide +kernel
theorem pd_0 : parseMethodDescriptor "(I)Z" = some ⟨[.int], (some .boolean)⟩ := by decide +kernel
def own_sp (q0 : Int32) : Int32 := if (32 : Int32) < q0 then (0 : Int32) else if q0 = (32 : Int32) then (1 : Int32) else if q0 = (10 : Int32) then (1 : Int32) else if q0 = (9 : Int32) then (1 : Int32) else if q0 = (13 : Int32) then (1 : Int32) else (0 : Int32)
theorem own_sp_01 (q0 : Int32) : own_sp q0 = 0 ∨ own_sp q0 = 1 := by
  unfold own_sp
  repeat' split
  all_goals first | exact Or.inl rfl | exact Or.inr rfl
set_option maxRecDepth 65536 in
set_option maxHeartbeats 40000000 in
theorem rm_sp (l : Launch) (Z : State) (a0 : Array Value) (hw : ∀ d ∈ tables_1, d.before a0 Z = true) (q0 : Int32)  (h0 : Heap)   :
    OwCon l (⟨"com/example/narrow_view/narrowview/DocumentDecoder", "isSpace", "(I)Z"⟩ : MethodName) prog_26_method_19_code 1 (some .boolean) ({ frames := 0, cells := 0, slots := 0, locals := 0 } : Room) Z #[(.int q0)] h0 (OwP (some (.int (own_sp q0))) h0) := by
  refine OwCon.of pn_1 (Ls := #[.val (.int q0)]) (fun m => by first | (simp [entryFrame, mkF, argsToLocals, Value.category]; done) | rfl) ?_
  intro p e s m below meth c s₁ C X0 e0
  refine ow_iloadN C X0 d1_0 rfl (pc' := 1) rfl ?_
  refine ow_bipush (32 : Int32) C X0 d1_1 (by decide) (pc' := 3) rfl ?_
  refine ow_icmp_gt C X0 d1_3 (pcT := 34) (pc' := 6) (by decide) (by decide) rfl (fun b3 => ?_) (fun b3 => ?_)
  · refine ow_iconst (0 : Int32) C X0 d1_34 (by decide) (pc' := 35) rfl ?_
    exact ow_retZ C X0 d1_35 (Nat.le_of_ble_eq_true rfl) (Nat.le_of_ble_eq_true rfl) (Or.inl rfl) ⟨(show some (Value.int (0 : Int32)) = some (Value.int (own_sp q0)) from congrArg (fun z => some (Value.int z)) (by unfold own_sp; rw [if_pos b3])), rfl, e0⟩
  · refine ow_iloadN C X0 d1_6 rfl (pc' := 7) rfl ?_
    refine ow_bipush (32 : Int32) C X0 d1_7 (by decide) (pc' := 9) rfl ?_
    refine ow_icmp_eq C X0 d1_9 (pcT := 30) (pc' := 12) (by decide) (by decide) rfl (fun b9 => ?_) (fun b9 => ?_)
    · refine ow_iconst (1 : Int32) C X0 d1_30 (by decide) (pc' := 31) rfl ?_
      refine ow_goto C X0 d1_31 (pcT := 35) (by decide) (by decide) ?_
      exact ow_retZ C X0 d1_35 (Nat.le_of_ble_eq_true rfl) (Nat.le_of_ble_eq_true rfl) (Or.inr rfl) ⟨(show some (Value.int (1 : Int32)) = some (Value.int (own_sp q0)) from congrArg (fun z => some (Value.int z)) (by unfold own_sp; rw [if_neg b3, if_pos b9])), rfl, e0⟩
    · refine ow_iloadN C X0 d1_12 rfl (pc' := 13) rfl ?_
      refine ow_bipush (10 : Int32) C X0 d1_13 (by decide) (pc' := 15) rfl ?_
      refine ow_icmp_eq C X0 d1_15 (pcT := 30) (pc' := 18) (by decide) (by decide) rfl (fun b15 => ?_) (fun b15 => ?_)
      · refine ow_iconst (1 : Int32) C X0 d1_30 (by decide) (pc' := 31) rfl ?_
        refine ow_goto C X0 d1_31 (pcT := 35) (by decide) (by decide) ?_
        exact ow_retZ C X0 d1_35 (Nat.le_of_ble_eq_true rfl) (Nat.le_of_ble_eq_true rfl) (Or.inr rfl) ⟨(show some (Value.int (1 : Int32)) = some (Value.int (own_sp q0)) from congrArg (fun z => some (Value.int z)) (by unfold own_sp; rw [if_neg b3, if_neg b9, if_pos b15])), rfl, e0⟩
      · refine ow_iloadN C X0 d1_18 rfl (pc' := 19) rfl ?_
        refine ow_bipush (9 : Int32) C X0 d1_19 (by decide) (pc' := 21) rfl ?_
        refine ow_icmp_eq C X0 d1_21 (pcT := 30) (pc' := 24) (by decide) (by decide) rfl (fun b21 => ?_) (fun b21 => ?_)
        · refine ow_iconst (1 : Int32) C X0 d1_30 (by decide) (pc' := 31) rfl ?_
          refine ow_goto C X0 d1_31 (pcT := 35) (by decide) (by decide) ?_
          exact ow_retZ C X0 d1_35 (Nat.le_of_ble_eq_true rfl) (Nat.le_of_ble_eq_true rfl) (Or.inr rfl) ⟨(show some (Value.int (1 : Int32)) = some (Value.int (own_sp q0)) from congrArg (fun z => some (Value.int z)) (by unfold own_sp; rw [if_neg b3, if_neg b9, if_neg b15, if_pos b21])), rfl, e0⟩
        · refine ow_iloadN C X0 d1_24 rfl (pc' := 25) rfl ?_
          refine ow_bipush (13 : Int32) C X0 d1_25 (by decide) (pc' := 27) rfl ?_
          refine ow_icmp_ne C X0 d1_27 (pcT := 34) (pc' := 30) (by decide) (by decide) rfl (fun b27 => ?_) (fun b27 => ?_)
          · refine ow_iconst (0 : Int32) C X0 d1_34 (by decide) (pc' := 35) rfl ?_
            exact ow_retZ C X0 d1_35 (Nat.le_of_ble_eq_true rfl) (Nat.le_of_ble_eq_true rfl) (Or.inl rfl) ⟨(show some (Value.int (0 : Int32)) = some (Value.int (own_sp q0)) from congrArg (fun z => some (Value.int z)) (by unfold own_sp; rw [if_neg b3, if_neg b9, if_neg b15, if_neg b21, if_neg b27])), rfl, e0⟩
          · refine ow_iconst (1 : Int32) C X0 d1_30 (by decide) (pc' := 31) rfl ?_
            refine ow_goto C X0 d1_31 (pcT := 35) (by decide) (by decide) ?_
            exact ow_retZ C X0 d1_35 (Nat.le_of_ble_eq_true rfl) (Nat.le_of_ble_eq_true rfl) (Or.inr rfl) ⟨(show some (Value.int (1 : Int32)) = some (Value.int (own_sp q0)) from congrArg (fun z => some (Value.int z)) (by unfold own_sp; rw [if_neg b3, if_neg b9, if_neg b15, if_neg b21, if_pos b27])), rfl, e0⟩
theorem d2_0 : decode method_2_code 0 = .ok (.iload_n 0, 1) := by decide +kernel
theorem d2_1 : decode method_2_code 1 = .ok (.ifCond .lt 9, 3) := by decide +kernel
theorem d2_4 : decode method_2_code 4 = .ok (.iload_n 0, 1) := by decide +kernel
theorem d2_5 : decode method_2_code 5 = .ok (.bipush 63, 2) := by decide +kernel
theorem d2_7 : decode method_2_code 7 = .ok (.if_icmp .le 5, 3) := by decide +kernel
theorem d2_10 : decode method_2_code 10 = .ok (.iconst 0, 1) := by decide +kernel
theorem d2_11 : decode method_2_code 11 = .ok (.ireturn, 1) := by decide +kernel
theorem d2_12 : decode method_2_code 12 = .ok (.ldc2_w 7, 3) := by decide +kernel
theorem d2_15 : decode method_2_code 15 = .ok (.iload_n 0, 1) := by decide +kernel
theorem d2_16 : decode method_2_code 16 = .ok (.lushr, 1) := by decide +kernel
theorem d2_17 : decode method_2_code 17 = .ok (.lconst 1, 1) := by decide +kernel
theorem d2_18 : decode method_2_code 18 = .ok (.land, 1) := by decide +kernel
theorem d2_19 : decode method_2_code 19 = .ok (.lconst 0, 1) := by decide +kernel
theorem d2_20 : decode method_2_code 20 = .ok (.lcmp, 1) := by decide +kernel
theorem d2_21 : decode method_2_code 21 = .ok (.ifCond .eq 7, 3) := by decide +kernel
theorem d2_24 : decode method_2_code 24 = .ok (.iconst 1, 1) := by decide +kernel
theorem d2_25 : decode method_2_code 25 = .ok (.goto 4, 3) := by decide +kernel
theorem d2_28 : decode method_2_code 28 = .ok (.iconst 0, 1) := by decide +kernel
theorem d2_29 : decode method_2_code 29 = .ok (.ireturn, 1) := by decide +kernel
theorem pn_2 : plainFor (⟨"com/example/narrow_view/narrowview/DocumentDecoderIsSpacePinLaw", "ref", "(I)Z"⟩ : MethodName) = true := by first | exact plainFor_of_name (by first | (simp [plainName, overriddenIn]; done) | decide +kernel) | decide +kernel
def own_refr (q0 : Int32) : Int32 := if q0 < 0 then (0 : Int32) else if (63 : Int32) < q0 then (0 : Int32) else if ((XT.ushrL (4294977024 : Int64) q0) &&& (1 : Int64)) = (0 : Int64) then (0 : Int32) else (1 : Int32)
theorem own_refr_01 (q0 : Int32) : own_refr q0 = 0 ∨ own_refr q0 = 1 := by
  unfold own_refr
  repeat' split
  all_goals first | exact Or.inl rfl | exact Or.inr rfl
set_option maxRecDepth 65536 in
set_option maxHeartbeats 40000000 in
theorem rm_refr (l : Launch) (Z : State) (a0 : Array Value) (hw : ∀ d ∈ tables_1, d.before a0 Z = true) (q0 : Int32)  (h0 : Heap)   :
    OwCon l (⟨"com/example/narrow_view/narrowview/DocumentDecoderIsSpacePinLaw", "ref", "(I)Z"⟩ : MethodName) method_2_code 1 (some .boolean) ({ frames := 0, cells := 0, slots := 0, locals := 0 } : Room) Z #[(.int q0)] h0 (OwP (some (.int (own_refr q0))) h0) := by
  refine OwCon.of pn_2 (Ls := #[.val (.int q0)]) (fun m => by first | (simp [entryFrame, mkF, argsToLocals, Value.category]; done) | rfl) ?_
  intro p e s m below meth c s₁ C X0 e0
  refine ow_iloadN C X0 d2_0 rfl (pc' := 1) rfl ?_
  refine ow_if_lt C X0 d2_1 (pcT := 10) (pc' := 4) (by decide) (by decide) rfl (fun b1 => ?_) (fun b1 => ?_)
  · refine ow_iconst (0 : Int32) C X0 d2_10 (by decide) (pc' := 11) rfl ?_
    exact ow_retZ C X0 d2_11 (Nat.le_of_ble_eq_true rfl) (Nat.le_of_ble_eq_true rfl) (Or.inl rfl) ⟨(show some (Value.int (0 : Int32)) = some (Value.int (own_refr q0)) from congrArg (fun z => some (Value.int z)) (by unfold own_refr; rw [if_pos b1])), rfl, e0⟩
  · refine ow_iloadN C X0 d2_4 rfl (pc' := 5) rfl ?_
    refine ow_bipush (63 : Int32) C X0 d2_5 (by decide) (pc' := 7) rfl ?_
    refine ow_icmp_le C X0 d2_7 (pcT := 12) (pc' := 10) (by decide) (by decide) rfl (fun b7 => ?_) (fun b7 => ?_)
    · refine ow_ldc2 C X0 (hw _ (List.mem_of_getElem? (i := 9) rfl)) d2_12 (pc' := 15) rfl ?_
      refine ow_iloadN C X0 d2_15 rfl (pc' := 16) rfl ?_
      refine ow_lushr C X0 d2_16 (pc' := 17) rfl ?_
      refine ow_lconst (1 : Int64) C X0 d2_17 (by decide) (pc' := 18) rfl ?_
      refine ow_land C X0 d2_18 (pc' := 19) rfl ?_
      refine ow_lconst (0 : Int64) C X0 d2_19 (by decide) (pc' := 20) rfl ?_
      refine ow_lcmp C X0 d2_20 (pc' := 21) rfl ?_
      refine ow_lif_eq C X0 d2_21 (pcT := 28) (pc' := 24) (by decide) (by decide) rfl (fun b21 => ?_) (fun b21 => ?_)
      · refine ow_iconst (0 : Int32) C X0 d2_28 (by decide) (pc' := 29) rfl ?_
        exact ow_retZ C X0 d2_29 (Nat.le_of_ble_eq_true rfl) (Nat.le_of_ble_eq_true rfl) (Or.inl rfl) ⟨(show some (Value.int (0 : Int32)) = some (Value.int (own_refr q0)) from congrArg (fun z => some (Value.int z)) (by unfold own_refr; rw [if_neg b1, if_neg b7, if_pos b21])), rfl, e0⟩
      · refine ow_iconst (1 : Int32) C X0 d2_24 (by decide) (pc' := 25) rfl ?_
        refine ow_goto C X0 d2_25 (pcT := 29) (by decide) (by decide) ?_
        exact ow_retZ C X0 d2_29 (Nat.le_of_ble_eq_true rfl) (Nat.le_of_ble_eq_true rfl) (Or.inr rfl) ⟨(show some (Value.int (1 : Int32)) = some (Value.int (own_refr q0)) from congrArg (fun z => some (Value.int z)) (by unfold own_refr; rw [if_neg b1, if_neg b7, if_neg b21])), rfl, e0⟩
    · refine ow_iconst (0 : Int32) C X0 d2_10 (by decide) (pc' := 11) rfl ?_
      exact ow_retZ C X0 d2_11 (Nat.le_of_ble_eq_true rfl) (Nat.le_of_ble_eq_true rfl) (Or.inl rfl) ⟨(show some (Value.int (0 : Int32)) = some (Value.int (own_refr q0)) from congrArg (fun z => some (Value.int z)) (by unfold own_refr; rw [if_neg b1, if_pos b7])), rfl, e0⟩
theorem pn_0 : plainFor (⟨"com/example/narrow_view/narrowview/DocumentDecoderIsSpacePinLaw", "law", "(II)Z"⟩ : MethodName) = true := by first | exact plainFor_of_name (by first | (simp [plainName, overriddenIn]; done) | decide +kernel) | decide +kernel
theorem pd_1 : parseMethodDescriptor "(II)Z" = some ⟨[.int, .int], (some .boolean)⟩ := by decide +kernel
def own_law_j26 (q0 : Int32) (q1 : Int32) : Int32 := if (own_sp q0) = (own_refr q0) then (1 : Int32) else (0 : Int32)
theorem own_law_j26_01 (q0 : Int32) (q1 : Int32) : own_law_j26 q0 q1 = 0 ∨ own_law_j26 q0 q1 = 1 := by
  unfold own_law_j26
  repeat' split
  all_goals first | exact Or.inl rfl | exact Or.inr rfl
def own_law_j44 (q0 : Int32) (q1 : Int32) : Int32 := if (own_sp (q1 &&& (63 : Int32))) = (own_refr (q1 &&& (63 : Int32))) then (1 : Int32) else (0 : Int32)
theorem own_law_j44_01 (q0 : Int32) (q1 : Int32) : own_law_j44 q0 q1 = 0 ∨ own_law_j44 q0 q1 = 1 := by
  unfold own_law_j44
  repeat' split
  all_goals first | exact Or.inl rfl | exact Or.inr rfl
def own_law_j62 (q0 : Int32) (q1 : Int32) : Int32 := if (own_sp (q0 ||| (-2147483648 : Int32))) = (own_refr (q0 ||| (-2147483648 : Int32))) then (1 : Int32) else (0 : Int32)
theorem own_law_j62_01 (q0 : Int32) (q1 : Int32) : own_law_j62 q0 q1 = 0 ∨ own_law_j62 q0 q1 = 1 := by
  unfold own_law_j62
  repeat' split
  all_goals first | exact Or.inl rfl | exact Or.inr rfl
def own_law (q0 : Int32) (q1 : Int32) : Int32 := if (own_law_j26 q0 q1) = 0 then (0 : Int32) else if (own_law_j44 q0 q1) = 0 then (0 : Int32) else if (own_law_j62 q0 q1) = 0 then (0 : Int32) else (1 : Int32)
set_option maxRecDepth 65536 in
set_option maxHeartbeats 40000000 in
theorem rm_law (l : Launch) (Z : State) (a0 : Array Value) (hw : ∀ d ∈ tables_1, d.before a0 Z = true) (q0 : Int32) (q1 : Int32) (h0 : Heap) (n0 : Nat) (Z0 : n0 ≤ h0.size) :
    OwCon l (⟨"com/example/narrow_view/narrowview/DocumentDecoderIsSpacePinLaw", "law", "(II)Z"⟩ : MethodName) code maxLocals ret room_1 Z #[(.int q0), (.int q1)] h0 (fun v h L => v = some (.int (own_law q0 q1)) ∧ Fr n0 L) := by
  refine OwCon.of pn_0 (Ls := #[.val (.int q0), .val (.int q1), .unset, .unset, .unset, .unset, .unset]) (fun m => by first | (simp [entryFrame, mkF, argsToLocals, Value.category]; done) | rfl) ?_
  intro p e s m below meth c s₁ C X0 e0
  refine ow_iloadN C X0 at_0 rfl (pc' := 1) rfl ?_
  refine ow_bipush (63 : Int32) C X0 at_1 (by decide) (pc' := 3) rfl ?_
  refine ow_iand C X0 at_3 (pc' := 4) rfl ?_
  refine ow_istoreN C X0 at_4 (Ls' := #[.val (.int q0), .val (.int q1), .val (.int (q1 &&& (63 : Int32))), .unset, .unset, .unset, .unset]) rfl (pc' := 5) rfl ?_
  refine ow_iloadN C X0 at_5 rfl (pc' := 6) rfl ?_
  refine ow_ldc C X0 (hw _ (List.mem_of_getElem? (i := 0) rfl)) at_6 (pc' := 8) rfl ?_
  refine ow_ior C X0 at_8 (pc' := 9) rfl ?_
  refine ow_istoreN C X0 at_9 (Ls' := #[.val (.int q0), .val (.int q1), .val (.int (q1 &&& (63 : Int32))), .val (.int (q0 ||| (-2147483648 : Int32))), .unset, .unset, .unset]) rfl (pc' := 10) rfl ?_
  refine ow_iloadN C X0 at_10 rfl (pc' := 11) rfl ?_
  refine ow_callSP C X0 e0 (hw _ (List.mem_of_getElem? (i := 1) rfl)) (hw _ (List.mem_of_getElem? (i := 2) rfl)) (hw _ (List.mem_of_getElem? (i := 3) rfl)) (hw _ (List.mem_of_getElem? (i := 4) rfl)) (by decide) (rm_sp l Z a0 hw q0 h0) ⟨rfl, rfl⟩ pd_0 rfl (argsL := [(.int q0)]) (rest := []) rfl rfl at_11 (Nat.le_of_ble_eq_true rfl) (Nat.le_of_ble_eq_true rfl) (Nat.le_of_ble_eq_true rfl) (Nat.le_of_ble_eq_true rfl) (pc' := 14) rfl (fun T1 X1 e1 => ?_)
  refine ow_iloadN C X1 at_14 rfl (pc' := 15) rfl ?_
  refine ow_callSP C X1 e1 (hw _ (List.mem_of_getElem? (i := 5) rfl)) (hw _ (List.mem_of_getElem? (i := 6) rfl)) (hw _ (List.mem_of_getElem? (i := 7) rfl)) (hw _ (List.mem_of_getElem? (i := 8) rfl)) (by decide) (rm_refr l Z a0 hw q0 h0) ⟨rfl, rfl⟩ pd_0 rfl (argsL := [(.int q0)]) (rest := [(.int (own_sp q0))]) rfl rfl at_15 (Nat.le_of_ble_eq_true rfl) (Nat.le_of_ble_eq_true rfl) (Nat.le_of_ble_eq_true rfl) (Nat.le_of_ble_eq_true rfl) (pc' := 18) rfl (fun T2 X2 e2 => ?_)
  refine ow_join X2 e2 (f' := (mkF m 26 #[.val (.int q0), .val (.int q1), .val (.int (q1 &&& (63 : Int32))), .val (.int (q0 ||| (-2147483648 : Int32))), .unset, .unset, .unset] [(.int (own_law_j26 q0 q1))])) ?_ (fun T3 X3 e3 => ?_)
  · intro D3 jk3
    refine ow_icmp_ne C X2 at_18 (pcT := 25) (pc' := 21) (by decide) (by decide) rfl (fun b18 => ?_) (fun b18 => ?_)
    · refine ow_iconst (0 : Int32) C X2 at_25 (by decide) (pc' := 26) rfl ?_
      have jq := jk3 T2 X2 e2
      rw [show (own_law_j26 q0 q1) = (0 : Int32) from by unfold own_law_j26; (try rw [if_neg b18]); (try rfl)] at jq
      exact jq
    · refine ow_iconst (1 : Int32) C X2 at_21 (by decide) (pc' := 22) rfl ?_
      refine ow_goto C X2 at_22 (pcT := 26) (by decide) (by decide) ?_
      have jq := jk3 T2 X2 e2
      rw [show (own_law_j26 q0 q1) = (1 : Int32) from by unfold own_law_j26; (try rw [if_pos b18]); (try rfl)] at jq
      exact jq
  refine ow_istore C X3 at_26 (Ls' := #[.val (.int q0), .val (.int q1), .val (.int (q1 &&& (63 : Int32))), .val (.int (q0 ||| (-2147483648 : Int32))), .val (.int (own_law_j26 q0 q1)), .unset, .unset]) rfl (pc' := 28) rfl ?_
  refine ow_iloadN C X3 at_28 rfl (pc' := 29) rfl ?_
  refine ow_callSP C X3 e3 (hw _ (List.mem_of_getElem? (i := 1) rfl)) (hw _ (List.mem_of_getElem? (i := 2) rfl)) (hw _ (List.mem_of_getElem? (i := 3) rfl)) (hw _ (List.mem_of_getElem? (i := 4) rfl)) (by decide) (rm_sp l Z a0 hw (q1 &&& (63 : Int32)) h0) ⟨rfl, rfl⟩ pd_0 rfl (argsL := [(.int (q1 &&& (63 : Int32)))]) (rest := []) rfl rfl at_29 (Nat.le_of_ble_eq_true rfl) (Nat.le_of_ble_eq_true rfl) (Nat.le_of_ble_eq_true rfl) (Nat.le_of_ble_eq_true rfl) (pc' := 32) rfl (fun T4 X4 e4 => ?_)
  refine ow_iloadN C X4 at_32 rfl (pc' := 33) rfl ?_
  refine ow_callSP C X4 e4 (hw _ (List.mem_of_getElem? (i := 5) rfl)) (hw _ (List.mem_of_getElem? (i := 6) rfl)) (hw _ (List.mem_of_getElem? (i := 7) rfl)) (hw _ (List.mem_of_getElem? (i := 8) rfl)) (by decide) (rm_refr l Z a0 hw (q1 &&& (63 : Int32)) h0) ⟨rfl, rfl⟩ pd_0 rfl (argsL := [(.int (q1 &&& (63 : Int32)))]) (rest := [(.int (own_sp (q1 &&& (63 : Int32))))]) rfl rfl at_33 (Nat.le_of_ble_eq_true rfl) (Nat.le_of_ble_eq_true rfl) (Nat.le_of_ble_eq_true rfl) (Nat.le_of_ble_eq_true rfl) (pc' := 36) rfl (fun T5 X5 e5 => ?_)
  refine ow_join X5 e5 (f' := (mkF m 44 #[.val (.int q0), .val (.int q1), .val (.int (q1 &&& (63 : Int32))), .val (.int (q0 ||| (-2147483648 : Int32))), .val (.int (own_law_j26 q0 q1)), .unset, .unset] [(.int (own_law_j44 q0 q1))])) ?_ (fun T6 X6 e6 => ?_)
  · intro D6 jk6
    refine ow_icmp_ne C X5 at_36 (pcT := 43) (pc' := 39) (by decide) (by decide) rfl (fun b36 => ?_) (fun b36 => ?_)
    · refine ow_iconst (0 : Int32) C X5 at_43 (by decide) (pc' := 44) rfl ?_
      have jq := jk6 T5 X5 e5
      rw [show (own_law_j44 q0 q1) = (0 : Int32) from by unfold own_law_j44; (try rw [if_neg b36]); (try rfl)] at jq
      exact jq
    · refine ow_iconst (1 : Int32) C X5 at_39 (by decide) (pc' := 40) rfl ?_
      refine ow_goto C X5 at_40 (pcT := 44) (by decide) (by decide) ?_
      have jq := jk6 T5 X5 e5
      rw [show (own_law_j44 q0 q1) = (1 : Int32) from by unfold own_law_j44; (try rw [if_pos b36]); (try rfl)] at jq
      exact jq
  refine ow_istore C X6 at_44 (Ls' := #[.val (.int q0), .val (.int q1), .val (.int (q1 &&& (63 : Int32))), .val (.int (q0 ||| (-2147483648 : Int32))), .val (.int (own_law_j26 q0 q1)), .val (.int (own_law_j44 q0 q1)), .unset]) rfl (pc' := 46) rfl ?_
  refine ow_iloadN C X6 at_46 rfl (pc' := 47) rfl ?_
  refine ow_callSP C X6 e6 (hw _ (List.mem_of_getElem? (i := 1) rfl)) (hw _ (List.mem_of_getElem? (i := 2) rfl)) (hw _ (List.mem_of_getElem? (i := 3) rfl)) (hw _ (List.mem_of_getElem? (i := 4) rfl)) (by decide) (rm_sp l Z a0 hw (q0 ||| (-2147483648 : Int32)) h0) ⟨rfl, rfl⟩ pd_0 rfl (argsL := [(.int (q0 ||| (-2147483648 : Int32)))]) (rest := []) rfl rfl at_47 (Nat.le_of_ble_eq_true rfl) (Nat.le_of_ble_eq_true rfl) (Nat.le_of_ble_eq_true rfl) (Nat.le_of_ble_eq_true rfl) (pc' := 50) rfl (fun T7 X7 e7 => ?_)
  refine ow_iloadN C X7 at_50 rfl (pc' := 51) rfl ?_
  refine ow_callSP C X7 e7 (hw _ (List.mem_of_getElem? (i := 5) rfl)) (hw _ (List.mem_of_getElem? (i := 6) rfl)) (hw _ (List.mem_of_getElem? (i := 7) rfl)) (hw _ (List.mem_of_getElem? (i := 8) rfl)) (by decide) (rm_refr l Z a0 hw (q0 ||| (-2147483648 : Int32)) h0) ⟨rfl, rfl⟩ pd_0 rfl (argsL := [(.int (q0 ||| (-2147483648 : Int32)))]) (rest := [(.int (own_sp (q0 ||| (-2147483648 : Int32))))]) rfl rfl at_51 (Nat.le_of_ble_eq_true rfl) (Nat.le_of_ble_eq_true rfl) (Nat.le_of_ble_eq_true rfl) (Nat.le_of_ble_eq_true rfl) (pc' := 54) rfl (fun T8 X8 e8 => ?_)
  refine ow_join X8 e8 (f' := (mkF m 62 #[.val (.int q0), .val (.int q1), .val (.int (q1 &&& (63 : Int32))), .val (.int (q0 ||| (-2147483648 : Int32))), .val (.int (own_law_j26 q0 q1)), .val (.int (own_law_j44 q0 q1)), .unset] [(.int (own_law_j62 q0 q1))])) ?_ (fun T9 X9 e9 => ?_)
  · intro D9 jk9
    refine ow_icmp_ne C X8 at_54 (pcT := 61) (pc' := 57) (by decide) (by decide) rfl (fun b54 => ?_) (fun b54 => ?_)
    · refine ow_iconst (0 : Int32) C X8 at_61 (by decide) (pc' := 62) rfl ?_
      have jq := jk9 T8 X8 e8
      rw [show (own_law_j62 q0 q1) = (0 : Int32) from by unfold own_law_j62; (try rw [if_neg b54]); (try rfl)] at jq
      exact jq
    · refine ow_iconst (1 : Int32) C X8 at_57 (by decide) (pc' := 58) rfl ?_
      refine ow_goto C X8 at_58 (pcT := 62) (by decide) (by decide) ?_
      have jq := jk9 T8 X8 e8
      rw [show (own_law_j62 q0 q1) = (1 : Int32) from by unfold own_law_j62; (try rw [if_pos b54]); (try rfl)] at jq
      exact jq
  refine ow_istore C X9 at_62 (Ls' := #[.val (.int q0), .val (.int q1), .val (.int (q1 &&& (63 : Int32))), .val (.int (q0 ||| (-2147483648 : Int32))), .val (.int (own_law_j26 q0 q1)), .val (.int (own_law_j44 q0 q1)), .val (.int (own_law_j62 q0 q1))]) rfl (pc' := 64) rfl ?_
  refine ow_iload C X9 at_64 rfl (pc' := 66) rfl ?_
  refine ow_if_eq C X9 at_66 (pcT := 83) (pc' := 69) (by decide) (by decide) rfl (fun b66 => ?_) (fun b66 => ?_)
  · refine ow_iconst (0 : Int32) C X9 at_83 (by decide) (pc' := 84) rfl ?_
    exact ow_retZ C X9 at_84 (Nat.le_of_ble_eq_true rfl) (Nat.le_of_ble_eq_true rfl) (Or.inl rfl) ⟨(show some (Value.int (0 : Int32)) = some (Value.int (own_law q0 q1)) from congrArg (fun z => some (Value.int z)) (by unfold own_law; rw [if_pos b66])), (Fr.nil n0)⟩
  · refine ow_iload C X9 at_69 rfl (pc' := 71) rfl ?_
    refine ow_if_eq C X9 at_71 (pcT := 83) (pc' := 74) (by decide) (by decide) rfl (fun b71 => ?_) (fun b71 => ?_)
    · refine ow_iconst (0 : Int32) C X9 at_83 (by decide) (pc' := 84) rfl ?_
      exact ow_retZ C X9 at_84 (Nat.le_of_ble_eq_true rfl) (Nat.le_of_ble_eq_true rfl) (Or.inl rfl) ⟨(show some (Value.int (0 : Int32)) = some (Value.int (own_law q0 q1)) from congrArg (fun z => some (Value.int z)) (by unfold own_law; rw [if_neg b66, if_pos b71])), (Fr.nil n0)⟩
    · refine ow_iload C X9 at_74 rfl (pc' := 76) rfl ?_
      refine ow_if_eq C X9 at_76 (pcT := 83) (pc' := 79) (by decide) (by decide) rfl (fun b76 => ?_) (fun b76 => ?_)
      · refine ow_iconst (0 : Int32) C X9 at_83 (by decide) (pc' := 84) rfl ?_
        exact ow_retZ C X9 at_84 (Nat.le_of_ble_eq_true rfl) (Nat.le_of_ble_eq_true rfl) (Or.inl rfl) ⟨(show some (Value.int (0 : Int32)) = some (Value.int (own_law q0 q1)) from congrArg (fun z => some (Value.int z)) (by unfold own_law; rw [if_neg b66, if_neg b71, if_pos b76])), (Fr.nil n0)⟩
      · refine ow_iconst (1 : Int32) C X9 at_79 (by decide) (pc' := 80) rfl ?_
        refine ow_goto C X9 at_80 (pcT := 84) (by decide) (by decide) ?_
        exact ow_retZ C X9 at_84 (Nat.le_of_ble_eq_true rfl) (Nat.le_of_ble_eq_true rfl) (Or.inr rfl) ⟨(show some (Value.int (1 : Int32)) = some (Value.int (own_law q0 q1)) from congrArg (fun z => some (Value.int z)) (by unfold own_law; rw [if_neg b66, if_neg b71, if_neg b76])), (Fr.nil n0)⟩
theorem own_small : ∀ n, n < 64 → own_sp (Int32.ofInt (n : Nat)) = own_refr (Int32.ofInt (n : Nat)) := by decide +kernel
theorem own_agree (q : Int32) : own_sp q = own_refr q := by
  by_cases h : 0 ≤ q.toInt ∧ q.toInt < 64
  · have e : Int32.ofInt ((q.toInt.toNat : Nat) : Int) = q := by rw [Int.toNat_of_nonneg h.1, Int32.ofInt_toInt]
    have := own_small q.toInt.toNat (by omega)
    rwa [e] at this
  · unfold own_sp own_refr
    simp only [Int32.lt_iff_toInt_lt, ← Int32.toInt_inj, show (32 : Int32).toInt = 32 from rfl, show (9 : Int32).toInt = 9 from rfl, show (10 : Int32).toInt = 10 from rfl, show (13 : Int32).toInt = 13 from rfl, show (63 : Int32).toInt = 63 from rfl, show (0 : Int32).toInt = 0 from rfl]
    repeat' split
    all_goals first | rfl | omega
theorem own_law_true (q0 : Int32) (q1 : Int32) : own_law q0 q1 = 1 := by
  unfold own_law own_law_j26 own_law_j44 own_law_j62
  rw [if_pos (own_agree _), if_pos (own_agree _), if_pos (own_agree _)]; decide
set_option maxRecDepth 65536 in
set_option maxHeartbeats 40000000 in
theorem comes_1 {Post : Tables → Env → Array Value → State → Outcome → State → Prop} (hpost : ∀ tb e args s v u, (limb_1_1.after args s (.returned v) u = true ∧ limb_1_2.after args s (.returned v) u = true ∧ True) → FrameEnd s (.returned v) u (Jvm.fieldLocs frame_1_writes args s ++ Jvm.arrayLocs frame_1_arrays args s ++ Jvm.staticLocs frame_1_statics s) 0 0 → Post tb e args s (.returned v) u) :
    ArmFor flags0 classFile x code maxLocals ret World_1 tables_1 room_1 Calls_1 rest_1 Pre_1 Post := by
  intro l hfl _ _ p e ha hc hk s m args below hf hA hF happ hP
  obtain ⟨hcalls, hrest, hpre⟩ := hP
  obtain ⟨-, -, -, hnamed, -, -, -, hat⟩ := (Spec.applies_iff hf).mp happ
  obtain ⟨hg, hn⟩ := and_e (Cond.before_iff.mp (show (Jvm.Cond.and given_1 narrow_1).before args s = true from hpre))
  obtain ⟨h1, hg0⟩ := and_e hg
  obtain ⟨ha0, hg1⟩ := and_e hg0
  obtain ⟨w0, w1, rfl⟩ : ∃ w0 w1 : Value, args = #[w0, w1] := by
    have hs : args.size = 2 := by simpa [Cond.value, given_1] using h1
    obtain ⟨L⟩ := args
    match L, hs with
    | [w0, w1], _ => exact ⟨w0, w1, rfl⟩
  have hw := fun d (hd : d ∈ tables_1) => atoms_spec (ws := Jvm.Cond.code x code maxLocals ret :: tables_1) hat d (List.mem_cons_of_mem _ hd)
  obtain ⟨q0, ev0⟩ := is_v ha0
  obtain rfl : w0 = (.int q0) := Option.some.inj ev0
  obtain ⟨q1, ev1⟩ := is_v hg1
  obtain rfl : w1 = (.int q1) := Option.some.inj ev1
  obtain ⟨n, o, h1, h2, h3, _, L, rfl, ⟨rfl, N⟩, hq⟩ := rm_law l s _ hw q0 q1 s.heap s.heap.size (Nat.le_refl _) tables_1 p e ha hc hk s m _ below hf ((Spec.applies_iff_loose hf).mp happ).1 ⟨rfl, State.Warmed39.refl s, rfl⟩ trivial
  rw [own_law_true q0 q1] at *
  refine ⟨n, _, h1, h2, h3, hpost _ _ _ _ _ _ ⟨Cond.after_iff.mpr rfl, Cond.after_iff.mpr (eq_i res_at (Term.int_eval (1)) rfl), trivial⟩ ⟨hq.1, hq.2.1, (hq.2.2.sift fun y hy => Or.inr (N y hy)).mono (by decide) (by decide)⟩⟩
theorem main_1_1 : Claimed_1_1 := comes_1 fun _ _ _ _ _ _ h hF => ⟨h.1, hF⟩
theorem main_1_2 : Claimed_1_2 := comes_1 fun _ _ _ _ _ _ h hF => ⟨h.2.1, hF⟩
end Jvm.Pilot.@@N@@
namespace Jvm.Pilot.@@N@@
open Jvm Jvm.ClassFile Sem Op Lib Jvm.Free Jvm.Stand Jvm.Pilot.@@N@@.Jvm.D
/-! MADE BY PROGRAM (witnessworld.py) out of the Statement's table words and the real class files: 13 classes; the members and pool entries that the words name. The judged class is class 1, her method 2. -/
namespace start1
open Jvm.ClassFile
def u (s : String) : CpInfo := .utf8 (stringToUtf16 s)
/-- a pool by its gaps: so many unusable entries, then the entry; so many at the end -/
def gap : Nat → List CpInfo → List CpInfo
  | 0, r => r
  | n + 1, r => .unusable :: gap n r
def poolList (es : List (Nat × CpInfo)) (last : Nat) : List CpInfo := es.foldr (fun e r => gap e.1 (e.2 :: r)) (gap last [])
def pool (es : List (Nat × CpInfo)) (last : Nat) : Array CpInfo := ⟨poolList es last⟩
def fileOf (pool : Array CpInfo) (this : Nat) (attrs : Array Attribute := #[]) (ms : Array MethodInfo := #[]) (fl : Nat := 33) (sup : Nat := 0) (ifs : Array Nat := #[]) (fds : Array FieldInfo := #[]) : ClassFile where
  minorVersion := 0
  majorVersion := 65
  constantPool := pool
  accessFlags := fl
  thisClass := this
  superClass := sup
  interfaces := ifs
  fields := fds
  methods := ms
  attributes := attrs
def plain (name : String) (sup : Option ClassId) : Class where
  name := name
  kind := .ordinary
  loader := none
  accessFlags := 33
  super := sup
  interfaces := #[]
  cf := none
  fields := #[]
  methods := #[]
  instanceTypes := #[]
  staticTypes := #[]
  resolved := #[]
  callSites := []
  init := .initialized
  statics := none
  mirror := none

def pool0 : Array CpInfo := pool [(5, u "<init>"), (0, u "()V"), (1, .class_ 10), (1, u "java/lang/Object")] 113

def k0m0 : Method := { name := "<init>", desc := "()V", sig := { parameters := [], returnType := none }, accessFlags := 1, code := none }
/-- java/lang/Object -/
def k0 : Class := { plain "java/lang/Object" none with
  accessFlags := 33
  interfaces := #[]
  cf := some (fileOf pool0 8 #[] #[{ accessFlags := 1, nameIndex := 5, descriptorIndex := 6, attributes := #[] }] 33 0 #[] #[])
  fields := #[]
  methods := #[k0m0]
  instanceTypes := #[]
  staticTypes := #[]
  resolved := Array.replicate 124 none
  statics := none }

def pool1 : Array CpInfo := pool [(2, .class_ 4), (1, u "java/lang/Object"), (0, u "<init>"), (0, u "()V"), (0, .long 4294977024), (1, .integer 2147483648), (0, .methodref 11 12), (0, .class_ 13), (0, .nameAndType 14 15), (0, u "com/example/narrow_view/narrowview/DocumentDecoder"), (0, u "isSpace"), (0, u "(I)Z"), (0, .methodref 17 18), (0, .class_ 19), (0, .nameAndType 20 15), (0, u "com/example/narrow_view/narrowview/DocumentDecoderIsSpacePinLaw"), (0, u "ref"), (3, u "law"), (0, u "(II)Z")] 2

def k1m0 : Method := { name := "<init>", desc := "()V", sig := { parameters := [], returnType := none }, accessFlags := 2, code := none }
def k1c1 : Code := { maxStack := 4, maxLocals := 1, code := method_2_code, exceptionTable := #[], attributes := #[] }
def k1m1 : Method := { name := "ref", desc := "(I)Z", sig := { parameters := [.int], returnType := some .boolean }, accessFlags := 10, code := some k1c1 }
def k1c2 : Code := { maxStack := 2, maxLocals := 7, code := code, exceptionTable := #[], attributes := #[] }
def k1m2 : Method := { name := "law", desc := "(II)Z", sig := { parameters := [.int, .int], returnType := some .boolean }, accessFlags := 9, code := some k1c2 }
/-- com/example/narrow_view/narrowview/DocumentDecoderIsSpacePinLaw -/
def k1 : Class := { plain "com/example/narrow_view/narrowview/DocumentDecoderIsSpacePinLaw" (some 0) with
  accessFlags := 49
  interfaces := #[]
  cf := some (fileOf pool1 17 #[] #[{ accessFlags := 2, nameIndex := 5, descriptorIndex := 6, attributes := #[] }, { accessFlags := 10, nameIndex := 20, descriptorIndex := 15, attributes := #[] }, { accessFlags := 9, nameIndex := 24, descriptorIndex := 25, attributes := #[] }] 49 2 #[] #[])
  fields := #[]
  methods := #[k1m0, k1m1, k1m2]
  instanceTypes := #[]
  staticTypes := #[]
  resolved := Array.replicate 28 none
  statics := none }

def pool2 : Array CpInfo := pool [(1, .class_ 2), (0, u "java/lang/Readable"), (0, .class_ 4), (0, u "java/lang/Object")] 7

/-- java/lang/Readable -/
def k2 : Class := { plain "java/lang/Readable" (some 0) with
  accessFlags := 1537
  interfaces := #[]
  cf := some (fileOf pool2 1 #[] #[] 1537 3 #[] #[])
  fields := #[]
  methods := #[]
  instanceTypes := #[]
  staticTypes := #[]
  resolved := Array.replicate 12 none
  statics := none }

def pool3 : Array CpInfo := pool [(1, .class_ 2), (0, u "java/lang/AutoCloseable"), (0, .class_ 4), (0, u "java/lang/Object")] 7

/-- java/lang/AutoCloseable -/
def k3 : Class := { plain "java/lang/AutoCloseable" (some 0) with
  accessFlags := 1537
  interfaces := #[]
  cf := some (fileOf pool3 1 #[] #[] 1537 3 #[] #[])
  fields := #[]
  methods := #[]
  instanceTypes := #[]
  staticTypes := #[]
  resolved := Array.replicate 12 none
  statics := none }

def pool4 : Array CpInfo := pool [(1, .class_ 2), (0, u "java/io/Closeable"), (0, .class_ 4), (0, u "java/lang/Object"), (0, .class_ 6), (0, u "java/lang/AutoCloseable")] 7

/-- java/io/Closeable -/
def k4 : Class := { plain "java/io/Closeable" (some 0) with
  accessFlags := 1537
  interfaces := #[3]
  cf := some (fileOf pool4 1 #[] #[] 1537 3 #[5] #[])
  fields := #[]
  methods := #[]
  instanceTypes := #[]
  staticTypes := #[]
  resolved := Array.replicate 14 none
  statics := none }

def pool5 : Array CpInfo := pool [(1, .class_ 2), (0, u "java/io/Reader$1"), (2, u "<init>"), (0, u "()V"), (1, .class_ 9), (0, u "java/lang/Object"), (1, .class_ 13), (1, u "java/io/Reader"), (0, u "skipBuffer"), (0, u "[C"), (2, u "lock"), (0, u "Ljava/lang/Object;"), (117, .class_ 138), (0, u "java/lang/Readable"), (0, .class_ 140), (0, u "java/io/Closeable"), (0, u "TRANSFER_BUFFER_SIZE"), (0, u "I"), (2, u "maxSkipBufferSize")] 59

def k5m0 : Method := { name := "<init>", desc := "()V", sig := { parameters := [], returnType := none }, accessFlags := 4, code := none }
/-- java/io/Reader -/
def k5 : Class := { plain "java/io/Reader" (some 0) with
  accessFlags := 1057
  interfaces := #[2, 4]
  cf := some (fileOf pool5 11 #[.nestMembers #[1]] #[{ accessFlags := 4, nameIndex := 5, descriptorIndex := 6, attributes := #[] }] 1057 8 #[137, 139] #[{ accessFlags := 26, nameIndex := 141, descriptorIndex := 142, attributes := #[] }, { accessFlags := 4, nameIndex := 18, descriptorIndex := 19, attributes := #[] }, { accessFlags := 26, nameIndex := 145, descriptorIndex := 142, attributes := #[] }, { accessFlags := 2, nameIndex := 14, descriptorIndex := 15, attributes := #[] }])
  fields := #[{ name := "TRANSFER_BUFFER_SIZE", type := .int, accessFlags := 26, slot := 0, constantValue := 0 }, { name := "lock", type := (.object "java/lang/Object"), accessFlags := 4, slot := 0, constantValue := 0 }, { name := "maxSkipBufferSize", type := .int, accessFlags := 26, slot := 1, constantValue := 0 }, { name := "skipBuffer", type := (.array .char), accessFlags := 2, slot := 1, constantValue := 0 }]
  methods := #[k5m0]
  instanceTypes := #[(.object "java/lang/Object"), (.array .char)]
  staticTypes := #[.int, .int]
  resolved := Array.replicate 205 none
  statics := none }

def pool6 : Array CpInfo := pool [(2, .class_ 4), (1, u "java/io/Reader"), (3, .class_ 10), (1, u "com/example/narrow_view/narrowview/DocumentDecoder"), (0, u "input"), (0, u "Ljava/io/InputStream;"), (2, u "bytes"), (0, u "Ljava/nio/ByteBuffer;"), (2, u "charset"), (0, u "Ljava/nio/charset/Charset;"), (2, u "declaration"), (0, u "Lcom/example/narrow_view/narrowview/XmlDeclaration;"), (2, u "inputEnded"), (0, u "Z"), (16, u "xml11"), (23, u "decoder"), (0, u "Ljava/nio/charset/CharsetDecoder;"), (4, u "UTF_8"), (9, u "asciiBytes"), (27, .class_ 115), (1, u "com/example/narrow_view/narrowview/DocumentDecoder$Start"), (1, u "I"), (6, u "Ljava/lang/String;"), (21, u "failure"), (2, u "decodingEnded"), (2, u "heldHigh"), (0, u "C"), (2, u "flushing"), (17, u "afterCarriageReturn"), (2, u "lineFeeds"), (0, u "J"), (17, u "needsInput"), (10, u "target"), (0, u "Ljava/nio/CharBuffer;"), (132, u "STARTS"), (0, u "[Lcom/example/narrow_view/narrowview/DocumentDecoder$Start;"), (48, u "UCS_NAMES"), (0, u "Ljava/util/Map;"), (63, u "FIRST_BUFFER_BYTES"), (2, u "BUFFER_BYTES"), (1, u "DECODED_RUN"), (1, u "UTF_16"), (0, u "UTF_16BE"), (0, u "UTF_16LE"), (0, u "UTF_32"), (0, u "UTF_32BE"), (0, u "UTF_32LE"), (0, u "EBCDIC"), (21, u "isSpace"), (0, u "(I)Z")] 39

def k6c0 : Code := { maxStack := 2, maxLocals := 1, code := prog_26_method_19_code, exceptionTable := #[], attributes := #[] }
def k6m0 : Method := { name := "isSpace", desc := "(I)Z", sig := { parameters := [.int], returnType := some .boolean }, accessFlags := 8, code := some k6c0 }
/-- com/example/narrow_view/narrowview/DocumentDecoder -/
def k6 : Class := { plain "com/example/narrow_view/narrowview/DocumentDecoder" (some 5) with
  accessFlags := 48
  interfaces := #[]
  cf := some (fileOf pool6 8 #[.nestMembers #[113]] #[{ accessFlags := 8, nameIndex := 491, descriptorIndex := 492, attributes := #[] }] 48 2 #[] #[{ accessFlags := 26, nameIndex := 456, descriptorIndex := 117, attributes := #[] }, { accessFlags := 26, nameIndex := 459, descriptorIndex := 117, attributes := #[] }, { accessFlags := 26, nameIndex := 461, descriptorIndex := 117, attributes := #[] }, { accessFlags := 26, nameIndex := 75, descriptorIndex := 124, attributes := #[] }, { accessFlags := 26, nameIndex := 463, descriptorIndex := 124, attributes := #[] }, { accessFlags := 26, nameIndex := 464, descriptorIndex := 124, attributes := #[] }, { accessFlags := 26, nameIndex := 465, descriptorIndex := 124, attributes := #[] }, { accessFlags := 26, nameIndex := 466, descriptorIndex := 124, attributes := #[] }, { accessFlags := 26, nameIndex := 467, descriptorIndex := 124, attributes := #[] }, { accessFlags := 26, nameIndex := 468, descriptorIndex := 124, attributes := #[] }, { accessFlags := 26, nameIndex := 469, descriptorIndex := 124, attributes := #[] }, { accessFlags := 26, nameIndex := 341, descriptorIndex := 342, attributes := #[] }, { accessFlags := 26, nameIndex := 391, descriptorIndex := 392, attributes := #[] }, { accessFlags := 18, nameIndex := 11, descriptorIndex := 12, attributes := #[] }, { accessFlags := 18, nameIndex := 15, descriptorIndex := 16, attributes := #[] }, { accessFlags := 18, nameIndex := 19, descriptorIndex := 20, attributes := #[] }, { accessFlags := 18, nameIndex := 23, descriptorIndex := 24, attributes := #[] }, { accessFlags := 18, nameIndex := 45, descriptorIndex := 28, attributes := #[] }, { accessFlags := 18, nameIndex := 69, descriptorIndex := 70, attributes := #[] }, { accessFlags := 18, nameIndex := 85, descriptorIndex := 28, attributes := #[] }, { accessFlags := 2, nameIndex := 207, descriptorIndex := 208, attributes := #[] }, { accessFlags := 2, nameIndex := 27, descriptorIndex := 28, attributes := #[] }, { accessFlags := 2, nameIndex := 156, descriptorIndex := 28, attributes := #[] }, { accessFlags := 2, nameIndex := 149, descriptorIndex := 28, attributes := #[] }, { accessFlags := 2, nameIndex := 196, descriptorIndex := 28, attributes := #[] }, { accessFlags := 2, nameIndex := 146, descriptorIndex := 124, attributes := #[] }, { accessFlags := 2, nameIndex := 152, descriptorIndex := 153, attributes := #[] }, { accessFlags := 2, nameIndex := 174, descriptorIndex := 28, attributes := #[] }, { accessFlags := 2, nameIndex := 177, descriptorIndex := 178, attributes := #[] }])
  fields := #[{ name := "FIRST_BUFFER_BYTES", type := .int, accessFlags := 26, slot := 0, constantValue := 0 }, { name := "BUFFER_BYTES", type := .int, accessFlags := 26, slot := 1, constantValue := 0 }, { name := "DECODED_RUN", type := .int, accessFlags := 26, slot := 2, constantValue := 0 }, { name := "UTF_8", type := (.object "java/lang/String"), accessFlags := 26, slot := 3, constantValue := 0 }, { name := "UTF_16", type := (.object "java/lang/String"), accessFlags := 26, slot := 4, constantValue := 0 }, { name := "UTF_16BE", type := (.object "java/lang/String"), accessFlags := 26, slot := 5, constantValue := 0 }, { name := "UTF_16LE", type := (.object "java/lang/String"), accessFlags := 26, slot := 6, constantValue := 0 }, { name := "UTF_32", type := (.object "java/lang/String"), accessFlags := 26, slot := 7, constantValue := 0 }, { name := "UTF_32BE", type := (.object "java/lang/String"), accessFlags := 26, slot := 8, constantValue := 0 }, { name := "UTF_32LE", type := (.object "java/lang/String"), accessFlags := 26, slot := 9, constantValue := 0 }, { name := "EBCDIC", type := (.object "java/lang/String"), accessFlags := 26, slot := 10, constantValue := 0 }, { name := "STARTS", type := (.array (.object "com/example/narrow_view/narrowview/DocumentDecoder$Start")), accessFlags := 26, slot := 11, constantValue := 0 }, { name := "UCS_NAMES", type := (.object "java/util/Map"), accessFlags := 26, slot := 12, constantValue := 0 }, { name := "input", type := (.object "java/io/InputStream"), accessFlags := 18, slot := 2, constantValue := 0 }, { name := "bytes", type := (.object "java/nio/ByteBuffer"), accessFlags := 18, slot := 3, constantValue := 0 }, { name := "charset", type := (.object "java/nio/charset/Charset"), accessFlags := 18, slot := 4, constantValue := 0 }, { name := "declaration", type := (.object "com/example/narrow_view/narrowview/XmlDeclaration"), accessFlags := 18, slot := 5, constantValue := 0 }, { name := "xml11", type := .boolean, accessFlags := 18, slot := 6, constantValue := 0 }, { name := "decoder", type := (.object "java/nio/charset/CharsetDecoder"), accessFlags := 18, slot := 7, constantValue := 0 }, { name := "asciiBytes", type := .boolean, accessFlags := 18, slot := 8, constantValue := 0 }, { name := "target", type := (.object "java/nio/CharBuffer"), accessFlags := 2, slot := 9, constantValue := 0 }, { name := "inputEnded", type := .boolean, accessFlags := 2, slot := 10, constantValue := 0 }, { name := "flushing", type := .boolean, accessFlags := 2, slot := 11, constantValue := 0 }, { name := "decodingEnded", type := .boolean, accessFlags := 2, slot := 12, constantValue := 0 }, { name := "needsInput", type := .boolean, accessFlags := 2, slot := 13, constantValue := 0 }, { name := "failure", type := (.object "java/lang/String"), accessFlags := 2, slot := 14, constantValue := 0 }, { name := "heldHigh", type := .char, accessFlags := 2, slot := 15, constantValue := 0 }, { name := "afterCarriageReturn", type := .boolean, accessFlags := 2, slot := 16, constantValue := 0 }, { name := "lineFeeds", type := .long, accessFlags := 2, slot := 17, constantValue := 0 }]
  methods := #[k6m0]
  instanceTypes := #[(.object "java/lang/Object"), (.array .char), (.object "java/io/InputStream"), (.object "java/nio/ByteBuffer"), (.object "java/nio/charset/Charset"), (.object "com/example/narrow_view/narrowview/XmlDeclaration"), .boolean, (.object "java/nio/charset/CharsetDecoder"), .boolean, (.object "java/nio/CharBuffer"), .boolean, .boolean, .boolean, .boolean, (.object "java/lang/String"), .char, .boolean, .long]
  staticTypes := #[.int, .int, .int, (.object "java/lang/String"), (.object "java/lang/String"), (.object "java/lang/String"), (.object "java/lang/String"), (.object "java/lang/String"), (.object "java/lang/String"), (.object "java/lang/String"), (.object "java/lang/String"), (.array (.object "com/example/narrow_view/narrowview/DocumentDecoder$Start")), (.object "java/util/Map")]
  resolved := Array.replicate 532 none
  statics := none }

def pool7 : Array CpInfo := pool [(1, u "java/lang/Cloneable"), (0, .class_ 1), (0, u "java/lang/Object"), (0, .class_ 3)] 3

/-- java/lang/Cloneable -/
def k7 : Class := { plain "java/lang/Cloneable" (some 0) with
  accessFlags := 1537
  interfaces := #[]
  cf := some (fileOf pool7 2 #[] #[] 1537 4 #[] #[])
  fields := #[]
  methods := #[]
  instanceTypes := #[]
  staticTypes := #[]
  resolved := Array.replicate 8 none
  statics := none }

def pool8 : Array CpInfo := pool [(1, u "java/io/Serializable"), (0, .class_ 1), (0, u "java/lang/Object"), (0, .class_ 3)] 3

/-- java/io/Serializable -/
def k8 : Class := { plain "java/io/Serializable" (some 0) with
  accessFlags := 1537
  interfaces := #[]
  cf := some (fileOf pool8 2 #[] #[] 1537 4 #[] #[])
  fields := #[]
  methods := #[]
  instanceTypes := #[]
  staticTypes := #[]
  resolved := Array.replicate 8 none
  statics := none }

/-- the primitive byte -/
def k9 : Class := { plain "byte" none with kind := .primitive 'B', accessFlags := 0x411 }
/-- [B -/
def k10 : Class := { plain "[B" (some 0) with kind := .array 9 .byte, interfaces := #[7, 8], accessFlags := 1041 }

/-- the primitive int -/
def k11 : Class := { plain "int" none with kind := .primitive 'I', accessFlags := 0x411 }
/-- [I -/
def k12 : Class := { plain "[I" (some 0) with kind := .array 11 .int, interfaces := #[7, 8], accessFlags := 1041 }

def heap : Heap := #[]
def classes : Array Class := #[k0, k1, k2, k3, k4, k5, k6, k7, k8, k9, k10, k11, k12]
def interned : List (Array UInt16 × Addr) := []
def slotsUsed : Nat := 0
def theMethod : MethodId := ⟨1, 2⟩
def args0 : Array Value := #[.int 5, .int 5]
def aboutOver (below : List Frame) : State where
  vm := { classes := classes, interned := interned.toArray }
  heap := heap
  slotsUsed := slotsUsed
  threads := #[{ frames := .invoking theMethod args0 :: below }]
def below0 : List Frame := [.native { method := ⟨0, 0⟩, args := #[] }]
def about1 : State := aboutOver below0
def p0 : Program := .bare "" "" ""
def e0 : Env := launch0.env 0 0 0
theorem w_frames : about1.frames = Frame.invoking theMethod args0 :: below0 := rfl
set_option maxRecDepth 65536 in
theorem w_args : argsFit about1.vm theMethod args0 = true := by decide +kernel
set_option maxRecDepth 65536 in
theorem w_heap : heapFits about1 = true := by decide +kernel
set_option maxRecDepth 65536 in
theorem w_runnable : about1.curStatus? = some .runnable := by decide +kernel
set_option maxRecDepth 65536 in
theorem w_alone : about1.alone = true := by decide +kernel
set_option maxRecDepth 65536 in
theorem w_named : about1.methodNamed? x = some theMethod := by decide +kernel
set_option maxRecDepth 65536 in
theorem w_hears : about1.hears theMethod below0 = true := by decide +kernel
set_option maxRecDepth 65536 in
theorem w_ripe : about1.ripe theMethod args0 below0 = true := by decide +kernel
theorem w_running : about1.status = .running := rfl
set_option maxRecDepth 65536 in
theorem w_room : about1.hasRoom e0.platform room_1 = true :=
  launch0.hasRoom_least _ room_1 (by decide +kernel) (by decide +kernel) (by decide +kernel) (by decide +kernel) (by decide +kernel) (by decide +kernel)
theorem allAtoms_all (ts : List Jvm.Cond) (a : Array Jvm.Value) (st : Jvm.State) : (allAtoms ts).before a st = ts.all (fun c => c.before a st) := by
  induction ts with
  | nil => rfl
  | cons c t ih =>
    show (Jvm.Cond.and c (allAtoms t)).before a st = _
    rw [Jvm.Cond.before_and, ih, List.all_cons]
def words1 : List Jvm.Cond := Jvm.Cond.code x code maxLocals ret :: tables_1
/-- a 'code' word, met by the world's own term for the bytes: nothing is compared byte by byte -/
theorem code_word {y : MethodName} {bytes : ByteArray} {mx : Nat} {rt : Option FieldType} {a : Array Value} {s : State} {m : MethodId} {meth : Method} {c : Code} (h1 : s.methodNamed? y = some m) (h2 : s.vm.method? m = some meth) (h3 : meth.code = some c) (h4 : c.code = bytes)
    (h5 : (c.maxLocals == mx && c.exceptionTable.isEmpty && decide (c.maxStack ≤ mostOperands) && decide (meth.sig.returnType = rt) && !meth.locks && decide (parseMethodDescriptor y.desc = some meth.sig)) = true) : (Jvm.Cond.code y bytes mx rt).before a s = true := by
  simp only [Bool.and_eq_true, beq_iff_eq, Bool.not_eq_true', decide_eq_true_eq] at h5
  obtain ⟨⟨⟨⟨⟨g1, g2⟩, g3⟩, g4⟩, g5⟩, g6⟩ := h5
  simp [Cond.before, Cond.holds, Cond.value, h1, h2, h3, h4, g1, g2, g3, g4, g5, g6]
def isCode : Jvm.Cond → Bool
  | .code _ _ _ _ => true
  | _ => false
theorem all_split {L : List Jvm.Cond} {P : Jvm.Cond → Bool} (h1 : L.all (fun c => isCode c || P c) = true) (h2 : ∀ c ∈ L.filter isCode, P c = true) : L.all P = true := by
  refine List.all_eq_true.mpr fun c hc => ?_
  have h := List.all_eq_true.mp h1 c hc
  rcases Bool.eq_false_or_eq_true (isCode c) with hi | hi
  · exact h2 c (List.mem_filter.mpr ⟨hc, hi⟩)
  · simpa [hi] using h
set_option maxRecDepth 65536 in
theorem w_c0 : (Jvm.Cond.code x code maxLocals ret).before args0 about1 = true := code_word (m := ⟨1, 2⟩) (meth := k1m2) (c := k1c2) (by decide +kernel) rfl rfl rfl (by decide +kernel)
set_option maxRecDepth 65536 in
theorem w_c1 : (Jvm.Cond.code ({ cls := "com/example/narrow_view/narrowview/DocumentDecoder", name := "isSpace", desc := "(I)Z" } : Jvm.MethodName) prog_26_method_19_code (1 : Nat) (Option.some Jvm.ClassFile.FieldType.boolean)).before args0 about1 = true := code_word (m := ⟨6, 0⟩) (meth := k6m0) (c := k6c0) (by decide +kernel) rfl rfl rfl (by decide +kernel)
set_option maxRecDepth 65536 in
theorem w_c2 : (Jvm.Cond.code ({ cls := "com/example/narrow_view/narrowview/DocumentDecoderIsSpacePinLaw", name := "ref", desc := "(I)Z" } : Jvm.MethodName) method_2_code (1 : Nat) (Option.some Jvm.ClassFile.FieldType.boolean)).before args0 about1 = true := code_word (m := ⟨1, 1⟩) (meth := k1m1) (c := k1c1) (by decide +kernel) rfl rfl rfl (by decide +kernel)
def codes1 : List Jvm.Cond := [Jvm.Cond.code x code maxLocals ret, Jvm.Cond.code ({ cls := "com/example/narrow_view/narrowview/DocumentDecoder", name := "isSpace", desc := "(I)Z" } : Jvm.MethodName) prog_26_method_19_code (1 : Nat) (Option.some Jvm.ClassFile.FieldType.boolean), Jvm.Cond.code ({ cls := "com/example/narrow_view/narrowview/DocumentDecoderIsSpacePinLaw", name := "ref", desc := "(I)Z" } : Jvm.MethodName) method_2_code (1 : Nat) (Option.some Jvm.ClassFile.FieldType.boolean)]
set_option maxRecDepth 65536 in
theorem codes_eq : words1.filter isCode = codes1 := rfl
theorem w_codes : ∀ c ∈ words1.filter isCode, c.before args0 about1 = true := by
  rw [codes_eq]
  intro c hc
  simp only [codes1, List.mem_cons, List.not_mem_nil, or_false] at hc
  rcases hc with rfl | rfl | rfl
  · exact w_c0
  · exact w_c1
  · exact w_c2
set_option maxRecDepth 65536 in
theorem w_t1 : words1.all (fun c => isCode c || c.before args0 about1) = true := by decide +kernel
theorem w_tables : (allAtoms (Jvm.Cond.code x code maxLocals ret :: tables_1)).before args0 about1 = true := by
  rw [allAtoms_all]
  show words1.all (fun c => c.before args0 about1) = true
  refine all_split ?_ w_codes
  rw [w_t1]
set_option maxRecDepth 65536 in
theorem w_case : (Jvm.Cond.and given_1 narrow_1).before args0 about1 = true := by decide +kernel
theorem w_applies : (headSpec (Jvm.Cond.code x code maxLocals ret :: tables_1) room_1).applies x e0.platform about1 = true :=
  (Spec.applies_iff w_frames).mpr ⟨w_running, w_runnable, w_alone, w_named, w_hears, w_ripe, w_room, w_tables⟩
theorem atStart : AtStart classFile x code maxLocals ret World_1 tables_1 room_1 Calls_1 rest_1 Pre_1 launch0 p0 e0 about1 theMethod args0 below0 :=
  ⟨lists_1, trivial, launch0.admits_env _ _ _, launch0.least_env, fairChoices_fair.cas, fairChoices_fair.clock, w_frames, w_args, w_heap, w_applies, trivial, trivial, w_case⟩
end start1
theorem witness_1 : WitnessClaimed_1 := ⟨start1.p0, start1.e0, start1.about1, start1.theMethod, start1.args0, start1.below0, start1.atStart⟩
end Jvm.Pilot.@@N@@
