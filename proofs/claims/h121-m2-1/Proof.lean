import JvmDerived
import JvmDerived.Pilot.@@N@@Statement
import JvmDerived.Pilot.@@N@@Code
set_option linter.unusedVariables false
set_option linter.unusedSimpArgs false
namespace Jvm.RoadKit
open Sem ClassFile Op Lib Jvm.Stand Jvm.Free Jvm.LawKit
section New
variable {p : Program} {l : Launch} {e : Env} {R : Room} {s : State} {m : MethodId} {args : Array Value} {below : List Frame} {meth : Method} {c : Code} {T : State} {locs : List Loc} {cells slots : Nat}
theorem retI (X : Stand p l e R s m args below meth c T locs cells slots) (hx : p.tables.exec = Jvm.exec) {pc : Nat} {Ls : Array Slot} {z : Int32} {rest : List Value} (hret : meth.sig.returnType = some .int) (hd : decode c.code pc = .ok (.ireturn, 1)) {fs : List Frame}
    (hl : ∀ (f : JFrame) (acts : List Action), f.method = m → f.locked = none → f.entered = [] → (doReturn e (T.setTop f) acts (some (.int z))).1 = T.setFrames fs) : Steps p.tables e below (T.setTop (mkF m pc Ls (.int z :: rest))) (T.setFrames fs) := by
  have hm' : T.vm.method? m = some meth := X.method'
  have hn : narrow .int (.int z) = .int z := rfl
  show Steps p.tables e below (T.setTop { method := m, pc := pc, locals := Ls, stack := _ :: rest, locked := none }) _
  jvm_step X.here [X.here.top, hx, hd, hm', hret, hn]
  first | (intro acts; rw [hl _ acts rfl rfl rfl]) | rw [hl _ _ rfl rfl rfl]
  exact Steps.refl _
end New
end Jvm.RoadKit
namespace Jvm.Pilot.@@N@@
open Jvm Jvm.ClassFile Sem Op Lib Jvm.Free Jvm.Stand Jvm.LawKit Jvm.RoadKit Bundle Jvm.Pilot.@@N@@.Jvm.D
/-! OWN KIT: a walk as one forward chain. OwF: from frame f at T the run ends, and D says how. OwC: the setting of a body. OwCon: a body's contract. -/
section OwnKit
variable {p : Program} {l : Launch} {e : Env} {R : Room} {s : State} {m : MethodId} {args : Array Value} {below : List Frame} {meth : Method} {c : Code} {T : State} {locs : List Loc} {cells slots : Nat} {Z : State} {a0 : Array Value} {h : Heap}
variable {own nm : String} {bytes : ByteArray} {maxL : Nat} {ret : Option FieldType} {D : State → Outcome → Prop} {pc pc' : Nat} {Ls : Array Slot} {r : List Value}
def OwF (p : Program) (e : Env) (below : List Frame) (D : State → Outcome → Prop) (T : State) (f : JFrame) : Prop := ∃ t o, Steps p.tables e below (T.setTop f) t ∧ D t o
def OwC (p : Program) (Z s : State) (m : MethodId) (meth : Method) (c : Code) (own nm : String) (bytes : ByteArray) (maxL : Nat) (ret : Option FieldType) : Prop :=
  p.tables.exec = Jvm.exec ∧ c.code = bytes ∧ c.maxLocals = maxL ∧ s.vm.findClass own = some m.cls ∧ meth.name = nm ∧ meth.sig.returnType = ret ∧ meth.locks = false ∧ Z.Warmed39 s.vm
def OwD (s : State) (below : List Frame) (Q : Option Value → Heap → List Loc → Prop) (kc ks : Nat) (t : State) (o : Outcome) : Prop :=
  t.status = .running ∧ Ended t below o ∧ ∃ v L, o = .returned v ∧ Q v t.heap L ∧ FrameEnd s o t L kc ks
def OwCon (l : Launch) (y : MethodName) (bytes : ByteArray) (maxL : Nat) (ret : Option FieldType) (rm : Room) (Z : State) (as' : Array Value) (h : Heap) (Q : Option Value → Heap → List Loc → Prop) : Prop :=
  ∀ ws, MetFree l y (head1 (Jvm.Cond.code y bytes maxL ret :: ws) rm) (fun a U => a = as' ∧ Z.Warmed39 U.vm ∧ U.heap = h) (fun _ _ _ _ _ => True) (fun _ U o U' => ∃ v L, o = .returned v ∧ Q v U'.heap L ∧ FrameEnd U o U' L rm.cells rm.slots)
theorem OwF.st {T' : State} {f f' : JFrame} (h : ∀ t, Steps p.tables e below (T'.setTop f') t → Steps p.tables e below (T.setTop f) t) (k : OwF p e below D T' f') : OwF p e below D T f := by
  obtain ⟨t, o, q, d⟩ := k; exact ⟨t, o, h t q, d⟩
theorem OwCon.of {y : MethodName} {rm : Room} {as' : Array Value} {Q : Option Value → Heap → List Loc → Prop} (hpl : plainFor y = true) {Ls : Array Slot} (hent : ∀ m, entryFrame m as' maxL = mkF m 0 Ls [])
    (body : ∀ (p : Program) (e : Env) (s : State) (m : MethodId) (below : List Frame) (meth : Method) (c : Code) (s₁ : State), OwC p Z s m meth c y.cls y.name bytes maxL ret → Stand p l e rm s m as' below meth c s₁ [] 0 0 → s₁.heap = h → OwF p e below (OwD s below Q rm.cells rm.slots) s₁ (mkF m 0 Ls [])) :
    OwCon l y bytes maxL ret rm Z as' h Q := by
  intro ws
  refine MetFree.of_bodySF hpl hisR ?_
  intro p e s m args below meth c s₁ Bd hml0 hP hK
  obtain ⟨rfl, hZ, hh⟩ := hP
  have X0 : Stand p l e rm s m args below meth c s₁ [] 0 0 := Stand.of_body Bd
  obtain ⟨t, o, h1, h2, h3, h4⟩ := body p e s m below meth c s₁ ⟨Bd.exec, Bd.bytes, hml0, findClass_of_methodNamed Bd.named, (name_of_methodNamed Bd.named Bd.method).1, Bd.returns, BodyLoose.notSynchronized Bd, hZ⟩ X0 (by rw [← hh, Bd.state]; rfl)
  exact ⟨t, o, castTop (hent m) h1, h2, h3, h4⟩
/-- a contract may say less -/
theorem OwCon.mono {y : MethodName} {rm : Room} {as' : Array Value} {Q Q' : Option Value → Heap → List Loc → Prop} (M : OwCon l y bytes maxL ret rm Z as' h Q) (hq : ∀ v h' L, Q v h' L → Q' v h' L) : OwCon l y bytes maxL ret rm Z as' h Q' := by
  intro ws p e ha hc hk s m args below hf happ hP hK
  obtain ⟨n, o, h1, h2, h3, v, L, h4, h5, h6⟩ := M ws p e ha hc hk s m args below hf happ hP hK
  exact ⟨n, o, h1, h2, h3, v, L, h4, hq _ _ _ h5, h6⟩
/-- two roads that meet -/
theorem ow_join {f f' : JFrame} (X : Stand p l e R s m args below meth c T locs cells slots) (eT : T.heap = h) (A : ∀ D : State → Outcome → Prop, (∀ T', Stand p l e R s m args below meth c T' locs cells slots → T'.heap = h → OwF p e below D T' f') → OwF p e below D T f)
    (k : ∀ T', Stand p l e R s m args below meth c T' locs cells slots → T'.heap = h → OwF p e below D T' f') : OwF p e below D T f := A D k
/-- a long or nothing, in two places -/
def OwTwo (x y : Slot) : Prop := (x = .unset ∧ y = .unset) ∨ ∃ v : Int64, x = .val (.long v) ∧ y = .second
/-- two roads that meet, with locals that are read no more -/
theorem ow_joinL {f : JFrame} {r' : List Value} {P : Array Slot → Prop} (X : Stand p l e R s m args below meth c T locs cells slots) (eT : T.heap = h) (A : ∀ D : State → Outcome → Prop, (∀ Ls' T', P Ls' → Stand p l e R s m args below meth c T' locs cells slots → T'.heap = h → OwF p e below D T' (mkF m pc' Ls' r')) → OwF p e below D T f)
    (k : ∀ Ls' T', P Ls' → Stand p l e R s m args below meth c T' locs cells slots → T'.heap = h → OwF p e below D T' (mkF m pc' Ls' r')) : OwF p e below D T f := A D k
/-! returns -/
theorem ow_retI {Q : Option Value → Heap → List Loc → Prop} {kc ks : Nat} {z : Int32} (C : OwC p Z s m meth c own nm bytes maxL (some .int)) (X : Stand p l e R s m args below meth c T locs cells slots) (hd : decode bytes pc = .ok (.ireturn, 1)) (hc : cells ≤ kc) (hs : slots ≤ ks)
    (hQ : Q (some (.int z)) T.heap locs) : OwF p e below (OwD s below Q kc ks) T (mkF m pc Ls (.int z :: r)) := by
  obtain ⟨hx, hby, -, -, -, hret, hlk, -⟩ := C
  obtain ⟨fs, hr, hrun, hended, hW, hsame⟩ := X.leave (v := some (.int z)) (fun h => by rw [hret] at h; cases h) hlk
  exact ⟨_, _, retI X hx hret (hb hby hd) hr, hrun, hended, _, _, rfl, hQ, ⟨_, rfl⟩, hW, hsame.mono hc hs⟩
theorem ow_retZ {Q : Option Value → Heap → List Loc → Prop} {kc ks : Nat} {z : Int32} (C : OwC p Z s m meth c own nm bytes maxL (some .boolean)) (X : Stand p l e R s m args below meth c T locs cells slots) (hd : decode bytes pc = .ok (.ireturn, 1)) (hc : cells ≤ kc) (hs : slots ≤ ks) (hz : z = 0 ∨ z = 1)
    (hQ : Q (some (.int z)) T.heap locs) : OwF p e below (OwD s below Q kc ks) T (mkF m pc Ls (.int z :: r)) := by
  obtain ⟨hx, hby, -, -, -, hret, hlk, -⟩ := C
  have hn : nar .boolean z = z := by rcases hz with rfl | rfl <;> decide
  obtain ⟨fs, hr, hrun, hended, hW, hsame⟩ := X.leave (v := some (.int z)) (fun h => by rw [hret] at h; cases h) hlk
  exact ⟨_, _, retN X hx hret (by simp) (hb hby hd) (by rw [hn]; exact hr), hrun, hended, _, _, rfl, hQ, ⟨_, rfl⟩, hW, hsame.mono hc hs⟩
theorem ow_retJ {Q : Option Value → Heap → List Loc → Prop} {kc ks : Nat} {z : Int64} (C : OwC p Z s m meth c own nm bytes maxL (some .long)) (X : Stand p l e R s m args below meth c T locs cells slots) (hd : decode bytes pc = .ok (.lreturn, 1)) (hc : cells ≤ kc) (hs : slots ≤ ks)
    (hQ : Q (some (.long z)) T.heap locs) : OwF p e below (OwD s below Q kc ks) T (mkF m pc Ls [.long z]) := by
  obtain ⟨hx, hby, -, -, -, hret, hlk, -⟩ := C
  obtain ⟨fs, hr, hrun, hended, hW, hsame⟩ := X.leave (v := some (.long z)) (fun h => by rw [hret] at h; cases h) hlk
  exact ⟨_, _, X.lreturnOut hx hret (hb hby hd) hr, hrun, hended, _, _, rfl, hQ, ⟨_, rfl⟩, hW, hsame.mono hc hs⟩
theorem ow_retV {Q : Option Value → Heap → List Loc → Prop} {kc ks : Nat} (C : OwC p Z s m meth c own nm bytes maxL none) (X : Stand p l e R s m args below meth c T locs cells slots) (hd : decode bytes pc = .ok (.return_, 1)) (hc : cells ≤ kc) (hs : slots ≤ ks)
    (hQ : Q none T.heap locs) : OwF p e below (OwD s below Q kc ks) T (mkF m pc Ls []) := by
  obtain ⟨hx, hby, -, -, -, hret, hlk, -⟩ := C
  obtain ⟨fs, hr, hrun, hended, hW, hsame⟩ := X.leave (v := none) (fun _ => rfl) hlk
  exact ⟨_, _, X.returnOut hx hret (hb hby hd) hr, hrun, hended, _, _, rfl, hQ, ⟨_, rfl⟩, hW, hsame.mono hc hs⟩
end OwnKit
section OwnSteps
variable {p : Program} {l : Launch} {e : Env} {R : Room} {s : State} {m : MethodId} {args : Array Value} {below : List Frame} {meth : Method} {c : Code} {T : State} {locs : List Loc} {cells slots : Nat} {Z : State} {a0 : Array Value} {h : Heap}
variable {own nm : String} {bytes : ByteArray} {maxL : Nat} {ret : Option FieldType} {D : State → Outcome → Prop} {pc pc' pcT : Nat} {Ls Ls' : Array Slot} {r : List Value}
theorem ow_iadd {x y : Int32} (C : OwC p Z s m meth c own nm bytes maxL ret) (X : Stand p l e R s m args below meth c T locs cells slots) (hd : decode bytes pc = .ok (.iadd, 1))  (hp : pc + 1 = pc') (k : OwF p e below D T (mkF m pc' Ls (.int (x + y) :: r))) : OwF p e below D T (mkF m pc Ls (.int y :: .int x :: r)) := by
  subst hp; exact OwF.st (fun _ q => XS.iadd X.here C.1 rfl (hb C.2.1 hd) rfl q) k
theorem ow_isub {x y : Int32} (C : OwC p Z s m meth c own nm bytes maxL ret) (X : Stand p l e R s m args below meth c T locs cells slots) (hd : decode bytes pc = .ok (.isub, 1))  (hp : pc + 1 = pc') (k : OwF p e below D T (mkF m pc' Ls (.int (x - y) :: r))) : OwF p e below D T (mkF m pc Ls (.int y :: .int x :: r)) := by
  subst hp; exact OwF.st (fun _ q => XS.isub X.here C.1 rfl (hb C.2.1 hd) rfl q) k
theorem ow_imul {x y : Int32} (C : OwC p Z s m meth c own nm bytes maxL ret) (X : Stand p l e R s m args below meth c T locs cells slots) (hd : decode bytes pc = .ok (.imul, 1))  (hp : pc + 1 = pc') (k : OwF p e below D T (mkF m pc' Ls (.int (x * y) :: r))) : OwF p e below D T (mkF m pc Ls (.int y :: .int x :: r)) := by
  subst hp; exact OwF.st (fun _ q => XS.imul X.here C.1 rfl (hb C.2.1 hd) rfl q) k
theorem ow_iand {x y : Int32} (C : OwC p Z s m meth c own nm bytes maxL ret) (X : Stand p l e R s m args below meth c T locs cells slots) (hd : decode bytes pc = .ok (.iand, 1))  (hp : pc + 1 = pc') (k : OwF p e below D T (mkF m pc' Ls (.int (x &&& y) :: r))) : OwF p e below D T (mkF m pc Ls (.int y :: .int x :: r)) := by
  subst hp; exact OwF.st (fun _ q => XS.iand X.here C.1 rfl (hb C.2.1 hd) rfl q) k
theorem ow_ior {x y : Int32} (C : OwC p Z s m meth c own nm bytes maxL ret) (X : Stand p l e R s m args below meth c T locs cells slots) (hd : decode bytes pc = .ok (.ior, 1))  (hp : pc + 1 = pc') (k : OwF p e below D T (mkF m pc' Ls (.int (x ||| y) :: r))) : OwF p e below D T (mkF m pc Ls (.int y :: .int x :: r)) := by
  subst hp; exact OwF.st (fun _ q => XT.ior X.here C.1 rfl (hb C.2.1 hd) rfl q) k
theorem ow_ixor {x y : Int32} (C : OwC p Z s m meth c own nm bytes maxL ret) (X : Stand p l e R s m args below meth c T locs cells slots) (hd : decode bytes pc = .ok (.ixor, 1))  (hp : pc + 1 = pc') (k : OwF p e below D T (mkF m pc' Ls (.int (x ^^^ y) :: r))) : OwF p e below D T (mkF m pc Ls (.int y :: .int x :: r)) := by
  subst hp; exact OwF.st (fun _ q => XT.ixor X.here C.1 rfl (hb C.2.1 hd) rfl q) k
theorem ow_ishl {x y : Int32} (C : OwC p Z s m meth c own nm bytes maxL ret) (X : Stand p l e R s m args below meth c T locs cells slots) (hd : decode bytes pc = .ok (.ishl, 1))  (hp : pc + 1 = pc') (k : OwF p e below D T (mkF m pc' Ls (.int (x <<< (y &&& 31)) :: r))) : OwF p e below D T (mkF m pc Ls (.int y :: .int x :: r)) := by
  subst hp; exact OwF.st (fun _ q => XT.ishl X.here C.1 rfl (hb C.2.1 hd) rfl q) k
theorem ow_ishr {x y : Int32} (C : OwC p Z s m meth c own nm bytes maxL ret) (X : Stand p l e R s m args below meth c T locs cells slots) (hd : decode bytes pc = .ok (.ishr, 1))  (hp : pc + 1 = pc') (k : OwF p e below D T (mkF m pc' Ls (.int (x >>> (y &&& 31)) :: r))) : OwF p e below D T (mkF m pc Ls (.int y :: .int x :: r)) := by
  subst hp; exact OwF.st (fun _ q => XT.ishr X.here C.1 rfl (hb C.2.1 hd) rfl q) k
theorem ow_iushr {x y : Int32} (C : OwC p Z s m meth c own nm bytes maxL ret) (X : Stand p l e R s m args below meth c T locs cells slots) (hd : decode bytes pc = .ok (.iushr, 1))  (hp : pc + 1 = pc') (k : OwF p e below D T (mkF m pc' Ls (.int (XT.ushr x y) :: r))) : OwF p e below D T (mkF m pc Ls (.int y :: .int x :: r)) := by
  subst hp; exact OwF.st (fun _ q => XT.iushr X.here C.1 rfl (hb C.2.1 hd) rfl q) k
theorem ow_idiv {x y : Int32} (C : OwC p Z s m meth c own nm bytes maxL ret) (X : Stand p l e R s m args below meth c T locs cells slots) (hd : decode bytes pc = .ok (.idiv, 1)) (hy : y ≠ 0) (hp : pc + 1 = pc') (k : OwF p e below D T (mkF m pc' Ls (.int (x / y) :: r))) : OwF p e below D T (mkF m pc Ls (.int y :: .int x :: r)) := by
  subst hp; exact OwF.st (fun _ q => XS.idiv X.here C.1 rfl (hb C.2.1 hd) rfl hy q) k
theorem ow_irem {x y : Int32} (C : OwC p Z s m meth c own nm bytes maxL ret) (X : Stand p l e R s m args below meth c T locs cells slots) (hd : decode bytes pc = .ok (.irem, 1)) (hy : y ≠ 0) (hp : pc + 1 = pc') (k : OwF p e below D T (mkF m pc' Ls (.int (x - (x / y) * y) :: r))) : OwF p e below D T (mkF m pc Ls (.int y :: .int x :: r)) := by
  subst hp; exact OwF.st (fun _ q => XS.irem X.here C.1 rfl (hb C.2.1 hd) rfl hy q) k
theorem ow_ladd {x y : Int64} (C : OwC p Z s m meth c own nm bytes maxL ret) (X : Stand p l e R s m args below meth c T locs cells slots) (hd : decode bytes pc = .ok (.ladd, 1))  (hp : pc + 1 = pc') (k : OwF p e below D T (mkF m pc' Ls (.long (x + y) :: r))) : OwF p e below D T (mkF m pc Ls (.long y :: .long x :: r)) := by
  subst hp; exact OwF.st (fun _ q => XT.ladd X.here C.1 rfl (hb C.2.1 hd) rfl q) k
theorem ow_lsub {x y : Int64} (C : OwC p Z s m meth c own nm bytes maxL ret) (X : Stand p l e R s m args below meth c T locs cells slots) (hd : decode bytes pc = .ok (.lsub, 1))  (hp : pc + 1 = pc') (k : OwF p e below D T (mkF m pc' Ls (.long (x - y) :: r))) : OwF p e below D T (mkF m pc Ls (.long y :: .long x :: r)) := by
  subst hp; exact OwF.st (fun _ q => XT.lsub X.here C.1 rfl (hb C.2.1 hd) rfl q) k
theorem ow_lmul {x y : Int64} (C : OwC p Z s m meth c own nm bytes maxL ret) (X : Stand p l e R s m args below meth c T locs cells slots) (hd : decode bytes pc = .ok (.lmul, 1))  (hp : pc + 1 = pc') (k : OwF p e below D T (mkF m pc' Ls (.long (x * y) :: r))) : OwF p e below D T (mkF m pc Ls (.long y :: .long x :: r)) := by
  subst hp; exact OwF.st (fun _ q => XT.lmul X.here C.1 rfl (hb C.2.1 hd) rfl q) k
theorem ow_land {x y : Int64} (C : OwC p Z s m meth c own nm bytes maxL ret) (X : Stand p l e R s m args below meth c T locs cells slots) (hd : decode bytes pc = .ok (.land, 1))  (hp : pc + 1 = pc') (k : OwF p e below D T (mkF m pc' Ls (.long (x &&& y) :: r))) : OwF p e below D T (mkF m pc Ls (.long y :: .long x :: r)) := by
  subst hp; exact OwF.st (fun _ q => XT.land X.here C.1 rfl (hb C.2.1 hd) rfl q) k
theorem ow_lor {x y : Int64} (C : OwC p Z s m meth c own nm bytes maxL ret) (X : Stand p l e R s m args below meth c T locs cells slots) (hd : decode bytes pc = .ok (.lor, 1))  (hp : pc + 1 = pc') (k : OwF p e below D T (mkF m pc' Ls (.long (x ||| y) :: r))) : OwF p e below D T (mkF m pc Ls (.long y :: .long x :: r)) := by
  subst hp; exact OwF.st (fun _ q => XT.lor X.here C.1 rfl (hb C.2.1 hd) rfl q) k
theorem ow_lxor {x y : Int64} (C : OwC p Z s m meth c own nm bytes maxL ret) (X : Stand p l e R s m args below meth c T locs cells slots) (hd : decode bytes pc = .ok (.lxor, 1))  (hp : pc + 1 = pc') (k : OwF p e below D T (mkF m pc' Ls (.long (x ^^^ y) :: r))) : OwF p e below D T (mkF m pc Ls (.long y :: .long x :: r)) := by
  subst hp; exact OwF.st (fun _ q => XT.lxor X.here C.1 rfl (hb C.2.1 hd) rfl q) k
theorem ow_ldiv {x y : Int64} (C : OwC p Z s m meth c own nm bytes maxL ret) (X : Stand p l e R s m args below meth c T locs cells slots) (hd : decode bytes pc = .ok (.ldiv, 1)) (hy : y ≠ 0) (hp : pc + 1 = pc') (k : OwF p e below D T (mkF m pc' Ls (.long (x / y) :: r))) : OwF p e below D T (mkF m pc Ls (.long y :: .long x :: r)) := by
  subst hp; exact OwF.st (fun _ q => XT.ldiv X.here C.1 rfl (hb C.2.1 hd) rfl hy q) k
theorem ow_lrem {x y : Int64} (C : OwC p Z s m meth c own nm bytes maxL ret) (X : Stand p l e R s m args below meth c T locs cells slots) (hd : decode bytes pc = .ok (.lrem, 1)) (hy : y ≠ 0) (hp : pc + 1 = pc') (k : OwF p e below D T (mkF m pc' Ls (.long (x - (x / y) * y) :: r))) : OwF p e below D T (mkF m pc Ls (.long y :: .long x :: r)) := by
  subst hp; exact OwF.st (fun _ q => XT.lrem X.here C.1 rfl (hb C.2.1 hd) rfl hy q) k
theorem ow_lshl {x : Int64} {y : Int32} (C : OwC p Z s m meth c own nm bytes maxL ret) (X : Stand p l e R s m args below meth c T locs cells slots) (hd : decode bytes pc = .ok (.lshl, 1))  (hp : pc + 1 = pc') (k : OwF p e below D T (mkF m pc' Ls (.long (x <<< (y.toInt64 &&& 63)) :: r))) : OwF p e below D T (mkF m pc Ls (.int y :: .long x :: r)) := by
  subst hp; exact OwF.st (fun _ q => XT.lshl X.here C.1 rfl (hb C.2.1 hd) rfl q) k
theorem ow_lshr {x : Int64} {y : Int32} (C : OwC p Z s m meth c own nm bytes maxL ret) (X : Stand p l e R s m args below meth c T locs cells slots) (hd : decode bytes pc = .ok (.lshr, 1))  (hp : pc + 1 = pc') (k : OwF p e below D T (mkF m pc' Ls (.long (x >>> (y.toInt64 &&& 63)) :: r))) : OwF p e below D T (mkF m pc Ls (.int y :: .long x :: r)) := by
  subst hp; exact OwF.st (fun _ q => XT.lshr X.here C.1 rfl (hb C.2.1 hd) rfl q) k
theorem ow_lushr {x : Int64} {y : Int32} (C : OwC p Z s m meth c own nm bytes maxL ret) (X : Stand p l e R s m args below meth c T locs cells slots) (hd : decode bytes pc = .ok (.lushr, 1))  (hp : pc + 1 = pc') (k : OwF p e below D T (mkF m pc' Ls (.long (XT.ushrL x y) :: r))) : OwF p e below D T (mkF m pc Ls (.int y :: .long x :: r)) := by
  subst hp; exact OwF.st (fun _ q => XT.lushr X.here C.1 rfl (hb C.2.1 hd) rfl q) k
theorem ow_lcmp {x y : Int64} (C : OwC p Z s m meth c own nm bytes maxL ret) (X : Stand p l e R s m args below meth c T locs cells slots) (hd : decode bytes pc = .ok (.lcmp, 1))  (hp : pc + 1 = pc') (k : OwF p e below D T (mkF m pc' Ls (.int (XT.cmpL x y) :: r))) : OwF p e below D T (mkF m pc Ls (.long y :: .long x :: r)) := by
  subst hp; exact OwF.st (fun _ q => XT.lcmp X.here C.1 rfl (hb C.2.1 hd) rfl q) k
theorem ow_ineg {x : Int32} (C : OwC p Z s m meth c own nm bytes maxL ret) (X : Stand p l e R s m args below meth c T locs cells slots) (hd : decode bytes pc = .ok (.ineg, 1))  (hp : pc + 1 = pc') (k : OwF p e below D T (mkF m pc' Ls (.int (-x) :: r))) : OwF p e below D T (mkF m pc Ls (.int x :: r)) := by
  subst hp; exact OwF.st (fun _ q => XS.ineg X.here C.1 rfl (hb C.2.1 hd) rfl q) k
theorem ow_lneg {x : Int64} (C : OwC p Z s m meth c own nm bytes maxL ret) (X : Stand p l e R s m args below meth c T locs cells slots) (hd : decode bytes pc = .ok (.lneg, 1))  (hp : pc + 1 = pc') (k : OwF p e below D T (mkF m pc' Ls (.long (-x) :: r))) : OwF p e below D T (mkF m pc Ls (.long x :: r)) := by
  subst hp; exact OwF.st (fun _ q => XT.lneg X.here C.1 rfl (hb C.2.1 hd) rfl q) k
theorem ow_i2l {x : Int32} (C : OwC p Z s m meth c own nm bytes maxL ret) (X : Stand p l e R s m args below meth c T locs cells slots) (hd : decode bytes pc = .ok (.i2l, 1))  (hp : pc + 1 = pc') (k : OwF p e below D T (mkF m pc' Ls (.long x.toInt64 :: r))) : OwF p e below D T (mkF m pc Ls (.int x :: r)) := by
  subst hp; exact OwF.st (fun _ q => XT.i2l X.here C.1 rfl (hb C.2.1 hd) rfl q) k
theorem ow_l2i {x : Int64} (C : OwC p Z s m meth c own nm bytes maxL ret) (X : Stand p l e R s m args below meth c T locs cells slots) (hd : decode bytes pc = .ok (.l2i, 1))  (hp : pc + 1 = pc') (k : OwF p e below D T (mkF m pc' Ls (.int x.toInt32 :: r))) : OwF p e below D T (mkF m pc Ls (.long x :: r)) := by
  subst hp; exact OwF.st (fun _ q => XT.l2i X.here C.1 rfl (hb C.2.1 hd) rfl q) k
theorem ow_i2b {x : Int32} (C : OwC p Z s m meth c own nm bytes maxL ret) (X : Stand p l e R s m args below meth c T locs cells slots) (hd : decode bytes pc = .ok (.i2b, 1))  (hp : pc + 1 = pc') (k : OwF p e below D T (mkF m pc' Ls (.int x.toInt8.toInt32 :: r))) : OwF p e below D T (mkF m pc Ls (.int x :: r)) := by
  subst hp; exact OwF.st (fun _ q => XT.i2b X.here C.1 rfl (hb C.2.1 hd) rfl q) k
theorem ow_i2c {x : Int32} (C : OwC p Z s m meth c own nm bytes maxL ret) (X : Stand p l e R s m args below meth c T locs cells slots) (hd : decode bytes pc = .ok (.i2c, 1))  (hp : pc + 1 = pc') (k : OwF p e below D T (mkF m pc' Ls (.int x.toUInt32.toUInt16.toUInt32.toInt32 :: r))) : OwF p e below D T (mkF m pc Ls (.int x :: r)) := by
  subst hp; exact OwF.st (fun _ q => XT.i2c X.here C.1 rfl (hb C.2.1 hd) rfl q) k
theorem ow_i2s {x : Int32} (C : OwC p Z s m meth c own nm bytes maxL ret) (X : Stand p l e R s m args below meth c T locs cells slots) (hd : decode bytes pc = .ok (.i2s, 1))  (hp : pc + 1 = pc') (k : OwF p e below D T (mkF m pc' Ls (.int x.toInt16.toInt32 :: r))) : OwF p e below D T (mkF m pc Ls (.int x :: r)) := by
  subst hp; exact OwF.st (fun _ q => XT.i2s X.here C.1 rfl (hb C.2.1 hd) rfl q) k
theorem ow_dup {v : Value} (C : OwC p Z s m meth c own nm bytes maxL ret) (X : Stand p l e R s m args below meth c T locs cells slots) (hd : decode bytes pc = .ok (.dup, 1)) (hc : v.category = 1) (hp : pc + 1 = pc') (k : OwF p e below D T (mkF m pc' Ls (v :: v :: r))) : OwF p e below D T (mkF m pc Ls (v :: r)) := by
  subst hp; exact OwF.st (fun _ q => XS.dup X.here C.1 rfl (hb C.2.1 hd) rfl hc q) k
theorem ow_pop {v : Value} (C : OwC p Z s m meth c own nm bytes maxL ret) (X : Stand p l e R s m args below meth c T locs cells slots) (hd : decode bytes pc = .ok (.pop, 1)) (hc : v.category = 1) (hp : pc + 1 = pc') (k : OwF p e below D T (mkF m pc' Ls (r))) : OwF p e below D T (mkF m pc Ls (v :: r)) := by
  subst hp; exact OwF.st (fun _ q => XT.pop X.here C.1 rfl (hb C.2.1 hd) rfl hc q) k
theorem ow_dupX1 {v w : Value} (C : OwC p Z s m meth c own nm bytes maxL ret) (X : Stand p l e R s m args below meth c T locs cells slots) (hd : decode bytes pc = .ok (.dup_x1, 1)) (hc : v.category = 1) (hc' : w.category = 1) (hp : pc + 1 = pc') (k : OwF p e below D T (mkF m pc' Ls (v :: w :: v :: r))) : OwF p e below D T (mkF m pc Ls (v :: w :: r)) := by
  subst hp; exact OwF.st (fun _ q => XT.dupX1 X.here C.1 rfl (hb C.2.1 hd) rfl hc hc' q) k
theorem ow_dup2 {v w : Value} (C : OwC p Z s m meth c own nm bytes maxL ret) (X : Stand p l e R s m args below meth c T locs cells slots) (hd : decode bytes pc = .ok (.dup2, 1)) (hc : v.category = 1) (hc' : w.category = 1) (hp : pc + 1 = pc') (k : OwF p e below D T (mkF m pc' Ls (v :: w :: v :: w :: r))) : OwF p e below D T (mkF m pc Ls (v :: w :: r)) := by
  subst hp; exact OwF.st (fun _ q => XT.dup2 X.here C.1 rfl (hb C.2.1 hd) rfl hc hc' q) k
theorem ow_dup2L {x : Int64} (C : OwC p Z s m meth c own nm bytes maxL ret) (X : Stand p l e R s m args below meth c T locs cells slots) (hd : decode bytes pc = .ok (.dup2, 1))  (hp : pc + 1 = pc') (k : OwF p e below D T (mkF m pc' Ls (.long x :: .long x :: r))) : OwF p e below D T (mkF m pc Ls (.long x :: r)) := by
  subst hp; exact OwF.st (fun _ q => XT.dup2L X.here C.1 rfl (hb C.2.1 hd) rfl q) k
theorem ow_aconstNull  (C : OwC p Z s m meth c own nm bytes maxL ret) (X : Stand p l e R s m args below meth c T locs cells slots) (hd : decode bytes pc = .ok (.aconst_null, 1))  (hp : pc + 1 = pc') (k : OwF p e below D T (mkF m pc' Ls (.null :: r))) : OwF p e below D T (mkF m pc Ls (r)) := by
  subst hp; exact OwF.st (fun _ q => XS.aconstNull X.here C.1 rfl (hb C.2.1 hd)  q) k
theorem ow_iloadN {j : Fin 4} {v : Int32} (C : OwC p Z s m meth c own nm bytes maxL ret) (X : Stand p l e R s m args below meth c T locs cells slots) (hd : decode bytes pc = .ok (.iload_n j, 1)) (hl : Ls[j.val]? = some (.val (.int v))) (hp : pc + 1 = pc') (k : OwF p e below D T (mkF m pc' Ls (.int v :: r))) : OwF p e below D T (mkF m pc Ls (r)) := by
  subst hp; exact OwF.st (fun _ q => XS.iloadN X.here C.1 rfl (hb C.2.1 hd) hl q) k
theorem ow_iload {j : Nat} {v : Int32} (C : OwC p Z s m meth c own nm bytes maxL ret) (X : Stand p l e R s m args below meth c T locs cells slots) (hd : decode bytes pc = .ok (.iload j, 2)) (hl : Ls[j]? = some (.val (.int v))) (hp : pc + 2 = pc') (k : OwF p e below D T (mkF m pc' Ls (.int v :: r))) : OwF p e below D T (mkF m pc Ls (r)) := by
  subst hp; exact OwF.st (fun _ q => XS.iload X.here C.1 rfl (hb C.2.1 hd) hl q) k
theorem ow_lloadN {j : Fin 4} {v : Int64} (C : OwC p Z s m meth c own nm bytes maxL ret) (X : Stand p l e R s m args below meth c T locs cells slots) (hd : decode bytes pc = .ok (.lload_n j, 1)) (hl : Ls[j.val]? = some (.val (.long v))) (hp : pc + 1 = pc') (k : OwF p e below D T (mkF m pc' Ls (.long v :: r))) : OwF p e below D T (mkF m pc Ls (r)) := by
  subst hp; exact OwF.st (fun _ q => XT.lloadN X.here C.1 rfl (hb C.2.1 hd) hl q) k
theorem ow_lload {j : Nat} {v : Int64} (C : OwC p Z s m meth c own nm bytes maxL ret) (X : Stand p l e R s m args below meth c T locs cells slots) (hd : decode bytes pc = .ok (.lload j, 2)) (hl : Ls[j]? = some (.val (.long v))) (hp : pc + 2 = pc') (k : OwF p e below D T (mkF m pc' Ls (.long v :: r))) : OwF p e below D T (mkF m pc Ls (r)) := by
  subst hp; exact OwF.st (fun _ q => XT.lload X.here C.1 rfl (hb C.2.1 hd) hl q) k
theorem ow_aloadN {j : Fin 4} {v : Value} (C : OwC p Z s m meth c own nm bytes maxL ret) (X : Stand p l e R s m args below meth c T locs cells slots) (hd : decode bytes pc = .ok (.aload_n j, 1)) (hl : Ls[j.val]? = some (.val v)) (hv : v.isRef = true) (hp : pc + 1 = pc') (k : OwF p e below D T (mkF m pc' Ls (v :: r))) : OwF p e below D T (mkF m pc Ls (r)) := by
  subst hp; exact OwF.st (fun _ q => XS.aloadN X.here C.1 rfl (hb C.2.1 hd) hl hv q) k
theorem ow_aload {j : Nat} {v : Value} (C : OwC p Z s m meth c own nm bytes maxL ret) (X : Stand p l e R s m args below meth c T locs cells slots) (hd : decode bytes pc = .ok (.aload j, 2)) (hl : Ls[j]? = some (.val v)) (hv : v.isRef = true) (hp : pc + 2 = pc') (k : OwF p e below D T (mkF m pc' Ls (v :: r))) : OwF p e below D T (mkF m pc Ls (r)) := by
  subst hp; exact OwF.st (fun _ q => XS.aload X.here C.1 rfl (hb C.2.1 hd) hl hv q) k
theorem ow_istoreN {j : Fin 4} {v : Int32} (C : OwC p Z s m meth c own nm bytes maxL ret) (X : Stand p l e R s m args below meth c T locs cells slots) (hd : decode bytes pc = .ok (.istore_n j, 1)) (hl : storeLocals Ls j.val (.int v) = some Ls') (hp : pc + 1 = pc') (k : OwF p e below D T (mkF m pc' Ls' (r))) : OwF p e below D T (mkF m pc Ls (.int v :: r)) := by
  subst hp; exact OwF.st (fun _ q => XS.istoreN X.here C.1 rfl (hb C.2.1 hd) rfl hl q) k
theorem ow_istore {j : Nat} {v : Int32} (C : OwC p Z s m meth c own nm bytes maxL ret) (X : Stand p l e R s m args below meth c T locs cells slots) (hd : decode bytes pc = .ok (.istore j, 2)) (hl : storeLocals Ls j (.int v) = some Ls') (hp : pc + 2 = pc') (k : OwF p e below D T (mkF m pc' Ls' (r))) : OwF p e below D T (mkF m pc Ls (.int v :: r)) := by
  subst hp; exact OwF.st (fun _ q => XS.istore X.here C.1 rfl (hb C.2.1 hd) rfl hl q) k
theorem ow_lstoreN {j : Fin 4} {v : Int64} (C : OwC p Z s m meth c own nm bytes maxL ret) (X : Stand p l e R s m args below meth c T locs cells slots) (hd : decode bytes pc = .ok (.lstore_n j, 1)) (hl : storeLocals Ls j.val (.long v) = some Ls') (hp : pc + 1 = pc') (k : OwF p e below D T (mkF m pc' Ls' (r))) : OwF p e below D T (mkF m pc Ls (.long v :: r)) := by
  subst hp; exact OwF.st (fun _ q => XT.lstoreN X.here C.1 rfl (hb C.2.1 hd) rfl hl q) k
theorem ow_lstore {j : Nat} {v : Int64} (C : OwC p Z s m meth c own nm bytes maxL ret) (X : Stand p l e R s m args below meth c T locs cells slots) (hd : decode bytes pc = .ok (.lstore j, 2)) (hl : storeLocals Ls j (.long v) = some Ls') (hp : pc + 2 = pc') (k : OwF p e below D T (mkF m pc' Ls' (r))) : OwF p e below D T (mkF m pc Ls (.long v :: r)) := by
  subst hp; exact OwF.st (fun _ q => XT.lstore X.here C.1 rfl (hb C.2.1 hd) rfl hl q) k
theorem ow_astoreN {j : Fin 4} {v : Value} (C : OwC p Z s m meth c own nm bytes maxL ret) (X : Stand p l e R s m args below meth c T locs cells slots) (hd : decode bytes pc = .ok (.astore_n j, 1)) (hv : v.isRef = true) (hl : storeLocals Ls j.val v = some Ls') (hp : pc + 1 = pc') (k : OwF p e below D T (mkF m pc' Ls' (r))) : OwF p e below D T (mkF m pc Ls (v :: r)) := by
  subst hp; exact OwF.st (fun _ q => XS.astoreN X.here C.1 rfl (hb C.2.1 hd) rfl hv hl q) k
theorem ow_astore {j : Nat} {v : Value} (C : OwC p Z s m meth c own nm bytes maxL ret) (X : Stand p l e R s m args below meth c T locs cells slots) (hd : decode bytes pc = .ok (.astore j, 2)) (hv : v.isRef = true) (hl : storeLocals Ls j v = some Ls') (hp : pc + 2 = pc') (k : OwF p e below D T (mkF m pc' Ls' (r))) : OwF p e below D T (mkF m pc Ls (v :: r)) := by
  subst hp; exact OwF.st (fun _ q => XS.astore X.here C.1 rfl (hb C.2.1 hd) rfl hv hl q) k
theorem ow_iconst {i : Int} (v : Int32) (C : OwC p Z s m meth c own nm bytes maxL ret) (X : Stand p l e R s m args below meth c T locs cells slots) (hd : decode bytes pc = .ok (.iconst i, 1)) (hv : Int32.ofInt i = v) (hp : pc + 1 = pc') (k : OwF p e below D T (mkF m pc' Ls (.int v :: r))) : OwF p e below D T (mkF m pc Ls r) := by
  subst hp; subst hv; exact OwF.st (fun _ q => XS.iconst X.here C.1 rfl (hb C.2.1 hd) q) k
theorem ow_bipush {i : Int} (v : Int32) (C : OwC p Z s m meth c own nm bytes maxL ret) (X : Stand p l e R s m args below meth c T locs cells slots) (hd : decode bytes pc = .ok (.bipush i, 2)) (hv : (Int8.ofInt i).toInt32 = v) (hp : pc + 2 = pc') (k : OwF p e below D T (mkF m pc' Ls (.int v :: r))) : OwF p e below D T (mkF m pc Ls r) := by
  subst hp; subst hv; exact OwF.st (fun _ q => XS.bipush X.here C.1 rfl (hb C.2.1 hd) q) k
theorem ow_sipush {i : Int} (v : Int32) (C : OwC p Z s m meth c own nm bytes maxL ret) (X : Stand p l e R s m args below meth c T locs cells slots) (hd : decode bytes pc = .ok (.sipush i, 3)) (hv : (Int16.ofInt i).toInt32 = v) (hp : pc + 3 = pc') (k : OwF p e below D T (mkF m pc' Ls (.int v :: r))) : OwF p e below D T (mkF m pc Ls r) := by
  subst hp; subst hv; exact OwF.st (fun _ q => XS.sipush X.here C.1 rfl (hb C.2.1 hd) q) k
theorem ow_lconst {i : Fin 2} (v : Int64) (C : OwC p Z s m meth c own nm bytes maxL ret) (X : Stand p l e R s m args below meth c T locs cells slots) (hd : decode bytes pc = .ok (.lconst i, 1)) (hv : Int64.ofNat i = v) (hp : pc + 1 = pc') (k : OwF p e below D T (mkF m pc' Ls (.long v :: r))) : OwF p e below D T (mkF m pc Ls r) := by
  subst hp; subst hv; exact OwF.st (fun _ q => XT.lconst X.here C.1 rfl (hb C.2.1 hd) q) k
theorem ow_iinc {i : Int} {j : Nat} {x : Int32} (v : Int32) (C : OwC p Z s m meth c own nm bytes maxL ret) (X : Stand p l e R s m args below meth c T locs cells slots) (hd : decode bytes pc = .ok (.iinc j i, 3)) (hv : Int32.ofInt i = v) (hl : Ls[j]? = some (.val (.int x))) (hl' : storeLocals Ls j (.int (x + v)) = some Ls') (hp : pc + 3 = pc') (k : OwF p e below D T (mkF m pc' Ls' r)) : OwF p e below D T (mkF m pc Ls r) := by
  subst hp; subst hv; exact OwF.st (fun _ q => XS.iinc X.here C.1 rfl (hb C.2.1 hd) hl hl' q) k
theorem ow_ldc {i : Nat} {v : Int32} (C : OwC p Z s m meth c own nm bytes maxL ret) (X : Stand p l e R s m args below meth c T locs cells slots) (w : (Jvm.Cond.constant own i v).before a0 Z = true) (hd : decode bytes pc = .ok (.ldc i, 2)) (hp : pc + 2 = pc') (k : OwF p e below D T (mkF m pc' Ls (.int v :: r))) : OwF p e below D T (mkF m pc Ls r) := by
  subst hp; exact OwF.st (fun _ q => X.ldcI C.1 C.2.2.2.1 (mvT C.2.2.2.2.2.2.2 w) rfl (hb C.2.1 hd) q) k
theorem ow_ldcW {i : Nat} {v : Int32} (C : OwC p Z s m meth c own nm bytes maxL ret) (X : Stand p l e R s m args below meth c T locs cells slots) (w : (Jvm.Cond.constant own i v).before a0 Z = true) (hd : decode bytes pc = .ok (.ldc_w i, 3)) (hp : pc + 3 = pc') (k : OwF p e below D T (mkF m pc' Ls (.int v :: r))) : OwF p e below D T (mkF m pc Ls r) := by
  subst hp; exact OwF.st (fun _ q => X.ldcWI C.1 C.2.2.2.1 (mvT C.2.2.2.2.2.2.2 w) rfl (hb C.2.1 hd) q) k
theorem ow_ldc2 {i : Nat} {v : Int64} (C : OwC p Z s m meth c own nm bytes maxL ret) (X : Stand p l e R s m args below meth c T locs cells slots) (w : (Jvm.Cond.constantLong own i v).before a0 Z = true) (hd : decode bytes pc = .ok (.ldc2_w i, 3)) (hp : pc + 3 = pc') (k : OwF p e below D T (mkF m pc' Ls (.long v :: r))) : OwF p e below D T (mkF m pc Ls r) := by
  subst hp; exact OwF.st (fun _ q => X.ldc2J C.1 C.2.2.2.1 (mvT C.2.2.2.2.2.2.2 w) rfl (hb C.2.1 hd) q) k
theorem ow_goto {o : Int} (C : OwC p Z s m meth c own nm bytes maxL ret) (X : Stand p l e R s m args below meth c T locs cells slots) (hd : decode bytes pc = .ok (.goto o, 3)) (ho : 0 ≤ (pc : Int) + o) (ht : ((pc : Int) + o).toNat = pcT) (k : OwF p e below D T (mkF m pcT Ls r)) : OwF p e below D T (mkF m pc Ls r) :=
  OwF.st (fun _ q => XS.goto X.here C.1 rfl rfl (hb C.2.1 hd) ho ht q) k
theorem ow_if_eq {x : Int32} {o : Int} (C : OwC p Z s m meth c own nm bytes maxL ret) (X : Stand p l e R s m args below meth c T locs cells slots) (hd : decode bytes pc = .ok (.ifCond .eq o, 3)) (ho : 0 ≤ (pc : Int) + o) (ht : ((pc : Int) + o).toNat = pcT) (hp : pc + 3 = pc') (k1 : x = 0 → OwF p e below D T (mkF m pcT Ls r)) (k2 : ¬ x = 0 → OwF p e below D T (mkF m pc' Ls r)) : OwF p e below D T (mkF m pc Ls (.int x :: r)) := by
  subst hp
  by_cases hq : x = 0
  · exact OwF.st (fun _ q => XS.ifYes X.here C.1 rfl rfl (hb C.2.1 hd) rfl (XT.i0_eq_t hq) ho ht q) (k1 hq)
  · exact OwF.st (fun _ q => XS.ifNo X.here C.1 rfl (hb C.2.1 hd) rfl (XT.i0_eq_f hq) q) (k2 hq)
theorem ow_icmp_eq {x y : Int32} {o : Int} (C : OwC p Z s m meth c own nm bytes maxL ret) (X : Stand p l e R s m args below meth c T locs cells slots) (hd : decode bytes pc = .ok (.if_icmp .eq o, 3)) (ho : 0 ≤ (pc : Int) + o) (ht : ((pc : Int) + o).toNat = pcT) (hp : pc + 3 = pc') (k1 : x = y → OwF p e below D T (mkF m pcT Ls r)) (k2 : ¬ x = y → OwF p e below D T (mkF m pc' Ls r)) : OwF p e below D T (mkF m pc Ls (.int y :: .int x :: r)) := by
  subst hp
  by_cases hq : x = y
  · exact OwF.st (fun _ q => XS.icmpYes X.here C.1 rfl rfl (hb C.2.1 hd) rfl (XT.ii_eq_t hq) ho ht q) (k1 hq)
  · exact OwF.st (fun _ q => XS.icmpNo X.here C.1 rfl (hb C.2.1 hd) rfl (XT.ii_eq_f hq) q) (k2 hq)
theorem ow_lif_eq {x y : Int64} {o : Int} (C : OwC p Z s m meth c own nm bytes maxL ret) (X : Stand p l e R s m args below meth c T locs cells slots) (hd : decode bytes pc = .ok (.ifCond .eq o, 3)) (ho : 0 ≤ (pc : Int) + o) (ht : ((pc : Int) + o).toNat = pcT) (hp : pc + 3 = pc') (k1 : x = y → OwF p e below D T (mkF m pcT Ls r)) (k2 : ¬ x = y → OwF p e below D T (mkF m pc' Ls r)) : OwF p e below D T (mkF m pc Ls (.int (XT.cmpL x y) :: r)) := by
  subst hp
  by_cases hq : x = y
  · exact OwF.st (fun _ q => XS.ifYes X.here C.1 rfl rfl (hb C.2.1 hd) rfl (XT.ll_eq_t hq) ho ht q) (k1 hq)
  · exact OwF.st (fun _ q => XS.ifNo X.here C.1 rfl (hb C.2.1 hd) rfl (XT.ll_eq_f hq) q) (k2 hq)
theorem ow_if_ne {x : Int32} {o : Int} (C : OwC p Z s m meth c own nm bytes maxL ret) (X : Stand p l e R s m args below meth c T locs cells slots) (hd : decode bytes pc = .ok (.ifCond .ne o, 3)) (ho : 0 ≤ (pc : Int) + o) (ht : ((pc : Int) + o).toNat = pcT) (hp : pc + 3 = pc') (k1 : ¬ x = 0 → OwF p e below D T (mkF m pcT Ls r)) (k2 : x = 0 → OwF p e below D T (mkF m pc' Ls r)) : OwF p e below D T (mkF m pc Ls (.int x :: r)) := by
  subst hp
  by_cases hq : x = 0
  · exact OwF.st (fun _ q => XS.ifNo X.here C.1 rfl (hb C.2.1 hd) rfl (XT.i0_ne_f hq) q) (k2 hq)
  · exact OwF.st (fun _ q => XS.ifYes X.here C.1 rfl rfl (hb C.2.1 hd) rfl (XT.i0_ne_t hq) ho ht q) (k1 hq)
theorem ow_icmp_ne {x y : Int32} {o : Int} (C : OwC p Z s m meth c own nm bytes maxL ret) (X : Stand p l e R s m args below meth c T locs cells slots) (hd : decode bytes pc = .ok (.if_icmp .ne o, 3)) (ho : 0 ≤ (pc : Int) + o) (ht : ((pc : Int) + o).toNat = pcT) (hp : pc + 3 = pc') (k1 : ¬ x = y → OwF p e below D T (mkF m pcT Ls r)) (k2 : x = y → OwF p e below D T (mkF m pc' Ls r)) : OwF p e below D T (mkF m pc Ls (.int y :: .int x :: r)) := by
  subst hp
  by_cases hq : x = y
  · exact OwF.st (fun _ q => XS.icmpNo X.here C.1 rfl (hb C.2.1 hd) rfl (XT.ii_ne_f hq) q) (k2 hq)
  · exact OwF.st (fun _ q => XS.icmpYes X.here C.1 rfl rfl (hb C.2.1 hd) rfl (XT.ii_ne_t hq) ho ht q) (k1 hq)
theorem ow_lif_ne {x y : Int64} {o : Int} (C : OwC p Z s m meth c own nm bytes maxL ret) (X : Stand p l e R s m args below meth c T locs cells slots) (hd : decode bytes pc = .ok (.ifCond .ne o, 3)) (ho : 0 ≤ (pc : Int) + o) (ht : ((pc : Int) + o).toNat = pcT) (hp : pc + 3 = pc') (k1 : ¬ x = y → OwF p e below D T (mkF m pcT Ls r)) (k2 : x = y → OwF p e below D T (mkF m pc' Ls r)) : OwF p e below D T (mkF m pc Ls (.int (XT.cmpL x y) :: r)) := by
  subst hp
  by_cases hq : x = y
  · exact OwF.st (fun _ q => XS.ifNo X.here C.1 rfl (hb C.2.1 hd) rfl (XT.ll_ne_f hq) q) (k2 hq)
  · exact OwF.st (fun _ q => XS.ifYes X.here C.1 rfl rfl (hb C.2.1 hd) rfl (XT.ll_ne_t hq) ho ht q) (k1 hq)
theorem ow_if_lt {x : Int32} {o : Int} (C : OwC p Z s m meth c own nm bytes maxL ret) (X : Stand p l e R s m args below meth c T locs cells slots) (hd : decode bytes pc = .ok (.ifCond .lt o, 3)) (ho : 0 ≤ (pc : Int) + o) (ht : ((pc : Int) + o).toNat = pcT) (hp : pc + 3 = pc') (k1 : x < 0 → OwF p e below D T (mkF m pcT Ls r)) (k2 : ¬ x < 0 → OwF p e below D T (mkF m pc' Ls r)) : OwF p e below D T (mkF m pc Ls (.int x :: r)) := by
  subst hp
  by_cases hq : x < 0
  · exact OwF.st (fun _ q => XS.ifYes X.here C.1 rfl rfl (hb C.2.1 hd) rfl (XT.i0_lt_t hq) ho ht q) (k1 hq)
  · exact OwF.st (fun _ q => XS.ifNo X.here C.1 rfl (hb C.2.1 hd) rfl (XT.i0_lt_f hq) q) (k2 hq)
theorem ow_icmp_lt {x y : Int32} {o : Int} (C : OwC p Z s m meth c own nm bytes maxL ret) (X : Stand p l e R s m args below meth c T locs cells slots) (hd : decode bytes pc = .ok (.if_icmp .lt o, 3)) (ho : 0 ≤ (pc : Int) + o) (ht : ((pc : Int) + o).toNat = pcT) (hp : pc + 3 = pc') (k1 : x < y → OwF p e below D T (mkF m pcT Ls r)) (k2 : ¬ x < y → OwF p e below D T (mkF m pc' Ls r)) : OwF p e below D T (mkF m pc Ls (.int y :: .int x :: r)) := by
  subst hp
  by_cases hq : x < y
  · exact OwF.st (fun _ q => XS.icmpYes X.here C.1 rfl rfl (hb C.2.1 hd) rfl (XT.ii_lt_t hq) ho ht q) (k1 hq)
  · exact OwF.st (fun _ q => XS.icmpNo X.here C.1 rfl (hb C.2.1 hd) rfl (XT.ii_lt_f hq) q) (k2 hq)
theorem ow_lif_lt {x y : Int64} {o : Int} (C : OwC p Z s m meth c own nm bytes maxL ret) (X : Stand p l e R s m args below meth c T locs cells slots) (hd : decode bytes pc = .ok (.ifCond .lt o, 3)) (ho : 0 ≤ (pc : Int) + o) (ht : ((pc : Int) + o).toNat = pcT) (hp : pc + 3 = pc') (k1 : x < y → OwF p e below D T (mkF m pcT Ls r)) (k2 : ¬ x < y → OwF p e below D T (mkF m pc' Ls r)) : OwF p e below D T (mkF m pc Ls (.int (XT.cmpL x y) :: r)) := by
  subst hp
  by_cases hq : x < y
  · exact OwF.st (fun _ q => XS.ifYes X.here C.1 rfl rfl (hb C.2.1 hd) rfl (XT.ll_lt_t hq) ho ht q) (k1 hq)
  · exact OwF.st (fun _ q => XS.ifNo X.here C.1 rfl (hb C.2.1 hd) rfl (XT.ll_lt_f hq) q) (k2 hq)
theorem ow_if_ge {x : Int32} {o : Int} (C : OwC p Z s m meth c own nm bytes maxL ret) (X : Stand p l e R s m args below meth c T locs cells slots) (hd : decode bytes pc = .ok (.ifCond .ge o, 3)) (ho : 0 ≤ (pc : Int) + o) (ht : ((pc : Int) + o).toNat = pcT) (hp : pc + 3 = pc') (k1 : ¬ x < 0 → OwF p e below D T (mkF m pcT Ls r)) (k2 : x < 0 → OwF p e below D T (mkF m pc' Ls r)) : OwF p e below D T (mkF m pc Ls (.int x :: r)) := by
  subst hp
  by_cases hq : x < 0
  · exact OwF.st (fun _ q => XS.ifNo X.here C.1 rfl (hb C.2.1 hd) rfl (XT.i0_ge_f hq) q) (k2 hq)
  · exact OwF.st (fun _ q => XS.ifYes X.here C.1 rfl rfl (hb C.2.1 hd) rfl (XT.i0_ge_t hq) ho ht q) (k1 hq)
theorem ow_icmp_ge {x y : Int32} {o : Int} (C : OwC p Z s m meth c own nm bytes maxL ret) (X : Stand p l e R s m args below meth c T locs cells slots) (hd : decode bytes pc = .ok (.if_icmp .ge o, 3)) (ho : 0 ≤ (pc : Int) + o) (ht : ((pc : Int) + o).toNat = pcT) (hp : pc + 3 = pc') (k1 : ¬ x < y → OwF p e below D T (mkF m pcT Ls r)) (k2 : x < y → OwF p e below D T (mkF m pc' Ls r)) : OwF p e below D T (mkF m pc Ls (.int y :: .int x :: r)) := by
  subst hp
  by_cases hq : x < y
  · exact OwF.st (fun _ q => XS.icmpNo X.here C.1 rfl (hb C.2.1 hd) rfl (XT.ii_ge_f hq) q) (k2 hq)
  · exact OwF.st (fun _ q => XS.icmpYes X.here C.1 rfl rfl (hb C.2.1 hd) rfl (XT.ii_ge_t hq) ho ht q) (k1 hq)
theorem ow_lif_ge {x y : Int64} {o : Int} (C : OwC p Z s m meth c own nm bytes maxL ret) (X : Stand p l e R s m args below meth c T locs cells slots) (hd : decode bytes pc = .ok (.ifCond .ge o, 3)) (ho : 0 ≤ (pc : Int) + o) (ht : ((pc : Int) + o).toNat = pcT) (hp : pc + 3 = pc') (k1 : ¬ x < y → OwF p e below D T (mkF m pcT Ls r)) (k2 : x < y → OwF p e below D T (mkF m pc' Ls r)) : OwF p e below D T (mkF m pc Ls (.int (XT.cmpL x y) :: r)) := by
  subst hp
  by_cases hq : x < y
  · exact OwF.st (fun _ q => XS.ifNo X.here C.1 rfl (hb C.2.1 hd) rfl (XT.ll_ge_f hq) q) (k2 hq)
  · exact OwF.st (fun _ q => XS.ifYes X.here C.1 rfl rfl (hb C.2.1 hd) rfl (XT.ll_ge_t hq) ho ht q) (k1 hq)
theorem ow_if_gt {x : Int32} {o : Int} (C : OwC p Z s m meth c own nm bytes maxL ret) (X : Stand p l e R s m args below meth c T locs cells slots) (hd : decode bytes pc = .ok (.ifCond .gt o, 3)) (ho : 0 ≤ (pc : Int) + o) (ht : ((pc : Int) + o).toNat = pcT) (hp : pc + 3 = pc') (k1 : 0 < x → OwF p e below D T (mkF m pcT Ls r)) (k2 : ¬ 0 < x → OwF p e below D T (mkF m pc' Ls r)) : OwF p e below D T (mkF m pc Ls (.int x :: r)) := by
  subst hp
  by_cases hq : 0 < x
  · exact OwF.st (fun _ q => XS.ifYes X.here C.1 rfl rfl (hb C.2.1 hd) rfl (XT.i0_gt_t hq) ho ht q) (k1 hq)
  · exact OwF.st (fun _ q => XS.ifNo X.here C.1 rfl (hb C.2.1 hd) rfl (XT.i0_gt_f hq) q) (k2 hq)
theorem ow_icmp_gt {x y : Int32} {o : Int} (C : OwC p Z s m meth c own nm bytes maxL ret) (X : Stand p l e R s m args below meth c T locs cells slots) (hd : decode bytes pc = .ok (.if_icmp .gt o, 3)) (ho : 0 ≤ (pc : Int) + o) (ht : ((pc : Int) + o).toNat = pcT) (hp : pc + 3 = pc') (k1 : y < x → OwF p e below D T (mkF m pcT Ls r)) (k2 : ¬ y < x → OwF p e below D T (mkF m pc' Ls r)) : OwF p e below D T (mkF m pc Ls (.int y :: .int x :: r)) := by
  subst hp
  by_cases hq : y < x
  · exact OwF.st (fun _ q => XS.icmpYes X.here C.1 rfl rfl (hb C.2.1 hd) rfl (XT.ii_gt_t hq) ho ht q) (k1 hq)
  · exact OwF.st (fun _ q => XS.icmpNo X.here C.1 rfl (hb C.2.1 hd) rfl (XT.ii_gt_f hq) q) (k2 hq)
theorem ow_lif_gt {x y : Int64} {o : Int} (C : OwC p Z s m meth c own nm bytes maxL ret) (X : Stand p l e R s m args below meth c T locs cells slots) (hd : decode bytes pc = .ok (.ifCond .gt o, 3)) (ho : 0 ≤ (pc : Int) + o) (ht : ((pc : Int) + o).toNat = pcT) (hp : pc + 3 = pc') (k1 : y < x → OwF p e below D T (mkF m pcT Ls r)) (k2 : ¬ y < x → OwF p e below D T (mkF m pc' Ls r)) : OwF p e below D T (mkF m pc Ls (.int (XT.cmpL x y) :: r)) := by
  subst hp
  by_cases hq : y < x
  · exact OwF.st (fun _ q => XS.ifYes X.here C.1 rfl rfl (hb C.2.1 hd) rfl (XT.ll_gt_t hq) ho ht q) (k1 hq)
  · exact OwF.st (fun _ q => XS.ifNo X.here C.1 rfl (hb C.2.1 hd) rfl (XT.ll_gt_f hq) q) (k2 hq)
theorem ow_if_le {x : Int32} {o : Int} (C : OwC p Z s m meth c own nm bytes maxL ret) (X : Stand p l e R s m args below meth c T locs cells slots) (hd : decode bytes pc = .ok (.ifCond .le o, 3)) (ho : 0 ≤ (pc : Int) + o) (ht : ((pc : Int) + o).toNat = pcT) (hp : pc + 3 = pc') (k1 : ¬ 0 < x → OwF p e below D T (mkF m pcT Ls r)) (k2 : 0 < x → OwF p e below D T (mkF m pc' Ls r)) : OwF p e below D T (mkF m pc Ls (.int x :: r)) := by
  subst hp
  by_cases hq : 0 < x
  · exact OwF.st (fun _ q => XS.ifNo X.here C.1 rfl (hb C.2.1 hd) rfl (XT.i0_le_f hq) q) (k2 hq)
  · exact OwF.st (fun _ q => XS.ifYes X.here C.1 rfl rfl (hb C.2.1 hd) rfl (XT.i0_le_t hq) ho ht q) (k1 hq)
theorem ow_icmp_le {x y : Int32} {o : Int} (C : OwC p Z s m meth c own nm bytes maxL ret) (X : Stand p l e R s m args below meth c T locs cells slots) (hd : decode bytes pc = .ok (.if_icmp .le o, 3)) (ho : 0 ≤ (pc : Int) + o) (ht : ((pc : Int) + o).toNat = pcT) (hp : pc + 3 = pc') (k1 : ¬ y < x → OwF p e below D T (mkF m pcT Ls r)) (k2 : y < x → OwF p e below D T (mkF m pc' Ls r)) : OwF p e below D T (mkF m pc Ls (.int y :: .int x :: r)) := by
  subst hp
  by_cases hq : y < x
  · exact OwF.st (fun _ q => XS.icmpNo X.here C.1 rfl (hb C.2.1 hd) rfl (XT.ii_le_f hq) q) (k2 hq)
  · exact OwF.st (fun _ q => XS.icmpYes X.here C.1 rfl rfl (hb C.2.1 hd) rfl (XT.ii_le_t hq) ho ht q) (k1 hq)
theorem ow_lif_le {x y : Int64} {o : Int} (C : OwC p Z s m meth c own nm bytes maxL ret) (X : Stand p l e R s m args below meth c T locs cells slots) (hd : decode bytes pc = .ok (.ifCond .le o, 3)) (ho : 0 ≤ (pc : Int) + o) (ht : ((pc : Int) + o).toNat = pcT) (hp : pc + 3 = pc') (k1 : ¬ y < x → OwF p e below D T (mkF m pcT Ls r)) (k2 : y < x → OwF p e below D T (mkF m pc' Ls r)) : OwF p e below D T (mkF m pc Ls (.int (XT.cmpL x y) :: r)) := by
  subst hp
  by_cases hq : y < x
  · exact OwF.st (fun _ q => XS.ifNo X.here C.1 rfl (hb C.2.1 hd) rfl (XT.ll_le_f hq) q) (k2 hq)
  · exact OwF.st (fun _ q => XS.ifYes X.here C.1 rfl rfl (hb C.2.1 hd) rfl (XT.ll_le_t hq) ho ht q) (k1 hq)
end OwnSteps
section OwnObj
variable {p : Program} {l : Launch} {e : Env} {R : Room} {s : State} {m : MethodId} {args : Array Value} {below : List Frame} {meth : Method} {c : Code} {T : State} {locs : List Loc} {cells slots : Nat} {Z : State} {a0 : Array Value} {h : Heap}
variable {own nm : String} {bytes : ByteArray} {maxL : Nat} {ret : Option FieldType} {D : State → Outcome → Prop} {pc pc' pcT : Nat} {Ls Ls' : Array Slot} {r : List Value}
/-- what lies on a stack, in words -/
abbrev owCat (r : List Value) : Nat := (r.map fun v => v.category).sum
theorem ow_getF {O n d : String} {index : Nat} {a : Addr} {v : Value} (C : OwC p Z s m meth c own nm bytes maxL ret) (X : Stand p l e R s m args below meth c T locs cells slots) (eT : T.heap = h) (w : (Jvm.Cond.fieldLink own index O n d).before a0 Z = true) (F : Fld Z h a O n d v)
    (hd : decode bytes pc = .ok (.getfield index, 3)) (hp : pc + 3 = pc') (k : ∀ T', Stand p l e R s m args below meth c T' locs cells slots → T'.heap = h → OwF p e below D T' (mkF m pc' Ls (v :: r))) : OwF p e below D T (mkF m pc Ls (.ref a :: r)) := by
  subst hp
  obtain ⟨T', X', e', st⟩ := getF X C.1 C.2.2.2.2.2.2.2 C.2.2.2.1 (host := "") (Or.inl w) Via.refl eT F (g := mkF m pc Ls (.ref a :: r)) rfl rfl (hb C.2.1 hd)
  exact OwF.st st (k T' X' e')
theorem ow_putF {O n d K : String} {index kk : Nat} {ty : FieldType} {a : Addr} {v old : Value} (C : OwC p Z s m meth c own nm bytes maxL ret) (X : Stand p l e R s m args below meth c T locs cells slots) (eT : T.heap = h) (w : (Jvm.Cond.fieldLink own index O n d).before a0 Z = true) (F : Fld Z h a O n d old) (E : Exa Z h a K)
    (L : (Jvm.Cond.lays K O n d).before a0 Z = true ∨ ((Jvm.Cond.laysFinal K O n d).before a0 Z = true ∧ own = O ∧ nm = "<init>")) (wi : (Jvm.Cond.instantiable K kk).before a0 Z = true) (hty : parseFieldDescriptor d = some ty) (hn : narrow ty v = v) (hf : fits ty v = true)
    (hd : decode bytes pc = .ok (.putfield index, 3)) (hp : pc + 3 = pc')
    (k : ∀ T' h', Stand p l e R s m args below meth c T' (locs ++ [⟨a, Jvm.RoadKit.slotOf Z O n d⟩]) cells slots → T'.heap = h' → Wr h h' a (Jvm.RoadKit.slotOf Z O n d) v → OwF p e below D T' (mkF m pc' Ls r)) : OwF p e below D T (mkF m pc Ls (v :: .ref a :: r)) := by
  subst hp
  obtain ⟨T', h', X', e', W', st⟩ := putF X C.1 C.2.2.2.2.2.2.2 C.2.2.2.1 (host := "") (Or.inl w) Via.refl eT F E (L.imp id fun q => ⟨q.1, q.2.1, C.2.2.2.2.1.trans q.2.2⟩) wi hty hn hf (g := mkF m pc Ls (v :: .ref a :: r)) rfl rfl (hb C.2.1 hd)
  exact OwF.st st (k T' h' X' e' W')
theorem ow_getS {O n d : String} {index : Nat} {v : Value} (C : OwC p Z s m meth c own nm bytes maxL ret) (X : Stand p l e R s m args below meth c T locs cells slots) (eT : T.heap = h) (w : (Jvm.Cond.fieldLink own index O n d).before a0 Z = true) (F : Sta Z h O n d v)
    (hd : decode bytes pc = .ok (.getstatic index, 3)) (hp : pc + 3 = pc') (k : ∀ T', Stand p l e R s m args below meth c T' locs cells slots → T'.heap = h → OwF p e below D T' (mkF m pc' Ls (v :: r))) : OwF p e below D T (mkF m pc Ls r) := by
  subst hp
  obtain ⟨T', X', e', st⟩ := getS X C.1 C.2.2.2.2.2.2.2 C.2.2.2.1 (host := "") w Via.refl eT F (g := mkF m pc Ls r) rfl (hb C.2.1 hd)
  exact OwF.st st (k T' X' e')
theorem ow_new {K : String} {index n : Nat} (C : OwC p Z s m meth c own nm bytes maxL ret) (X : Stand p l e R s m args below meth c T locs cells slots) (eT : T.heap = h) (w : (Jvm.Cond.classLink own index K).before a0 Z = true) (wi : (Jvm.Cond.instantiable K n).before a0 Z = true) (wz : (Jvm.Cond.initialized K).before a0 Z = true)
    (hd : decode bytes pc = .ok (.new index, 3)) (hc : cells + 1 ≤ R.cells) (hl : slots + n ≤ R.slots) (hp : pc + 3 = pc')
    (k : ∀ T' h' a, a = h.size → Stand p l e R s m args below meth c T' locs (cells + 1) (slots + n) → T'.heap = h' → Ext h h' → Exa Z h' a K → (∀ {O nm d : String} {ty : FieldType}, Laid Z a0 K O nm d → parseFieldDescriptor d = some ty → Fld Z h' a O nm d (defaultValue ty)) → OwF p e below D T' (mkF m pc' Ls (.ref a :: r))) : OwF p e below D T (mkF m pc Ls r) := by
  subst hp
  obtain ⟨T', h', X', e', E', A', D', -, st⟩ := newO X C.1 C.2.2.2.2.2.2.2 C.2.2.2.1 w wi wz eT (g := mkF m pc Ls r) rfl (hb C.2.1 hd) hc hl
  exact OwF.st st (k T' h' _ rfl X' e' E' A' D')
theorem ow_initO {index : Nat} {a : Addr} (C : OwC p Z s m meth c own nm bytes maxL ret) (X : Stand p l e R s m args below meth c T locs cells slots) (eT : T.heap = h) (w1 : (Jvm.Cond.methodLink own index Lib.objectInit).before a0 Z = true) (w2 : (Jvm.Cond.instanceMethod Lib.objectInit).before a0 Z = true)
    (w3 : (Jvm.Cond.code Lib.objectInit ⟨#[0xb1]⟩ 1 none).before a0 Z = true) (hsz : Ls.size = maxL) (hd : decode bytes pc = .ok (.invokespecial index, 3)) (hf : 1 ≤ R.frames) (hl : owCat r + 12 ≤ R.locals) (hp : pc + 3 = pc')
    (k : ∀ T', Stand p l e R s m args below meth c T' locs cells slots → T'.heap = h → OwF p e below D T' (mkF m pc' Ls r)) : OwF p e below D T (mkF m pc Ls (.ref a :: r)) := by
  subst hp
  obtain ⟨T', X', e', st⟩ := initO X C.1 C.2.2.2.2.2.2.2 C.2.2.2.1 w1 w2 w3 eT (g := mkF m pc Ls (.ref a :: r)) rfl (by rw [C.2.2.1]; exact hsz) rfl (hb C.2.1 hd) hf (W := owCat r) (by show 2 * 0 + owCat r ≤ owCat r; omega) hl
  exact OwF.st st (k T' X' e')
/-- a static method by its contract -/
theorem ow_callS {index : Nat} {y : MethodName} {by' : ByteArray} {mx : Nat} {rt : Option FieldType} {rm : Room} {Q : Option Value → Heap → List Loc → Prop} {stk argsL rest : List Value} {ps : List FieldType} {pr : Option FieldType}
    (C : OwC p Z s m meth c own nm bytes maxL ret) (X : Stand p l e R s m args below meth c T locs cells slots) (eT : T.heap = h)
    (w1 : (Jvm.Cond.methodLink own index y).before a0 Z = true) (w2 : (Jvm.Cond.static y).before a0 Z = true) (w3 : (Jvm.Cond.initialized y.cls).before a0 Z = true) (w4 : (Jvm.Cond.code y by' mx rt).before a0 Z = true) (hy : y.cls ≠ "java/lang/invoke/MethodHandle" ∧ y.cls ≠ "java/lang/invoke/VarHandle")
    (M : OwCon l y by' mx rt rm Z argsL.toArray h Q) (hds : parseMethodDescriptor y.desc = some ⟨ps, pr⟩) (hln : argsL.length = ps.length) (hst : stk = argsL.reverse ++ rest) (hsz : Ls.size = maxL)
    (hd : decode bytes pc = .ok (.invokestatic index, 3)) (hfr : rm.frames + 1 ≤ R.frames) (hlo : owCat rest + (mx + 11) + rm.locals ≤ R.locals) (hcl : cells + rm.cells ≤ R.cells) (hsl : slots + rm.slots ≤ R.slots) (hp : pc + 3 = pc')
    (k : ∀ T' v L, Stand p l e R s m args below meth c T' (locs ++ L) (cells + rm.cells) (slots + rm.slots) → Q v T'.heap L → OwF p e below D T' (mkF m pc' Ls (v.toList ++ rest))) : OwF p e below D T (mkF m pc Ls stk) := by
  subst hp; subst hst
  have hZ := C.2.2.2.2.2.2.2
  obtain ⟨v, _, ⟨T', L', k', n'⟩, -, X', ⟨Lc, hQ, l', y', z'⟩, st⟩ := Jvm.LawKit.callS X C.1 (y := y) C.2.2.2.1 (mvT hZ w1) (mvT hZ w2) (mvT hZ w3) (mvT hZ w4) hy (backOf (W := owCat rest) (M []) hZ w4 w3 hfr hlo) (g := mkF m pc Ls (argsL.reverse ++ rest)) rfl (by rw [C.2.2.1]; exact hsz) (argsL := argsL) (rest := rest) (lenOf hds hln) rfl (by show 2 * 0 + owCat rest ≤ owCat rest; omega) (hb C.2.1 hd) (fun _ _ => ⟨rfl, eT, hcl, hsl⟩)
  dsimp only [Pt.U, Pt.locs, Pt.cells, Pt.slots] at X' l' y' z' st hQ
  subst l' y' z'
  exact OwF.st st (k T' v Lc X' hQ)
/-- a constructor by its contract -/
theorem ow_callN {index : Nat} {y : MethodName} {by' : ByteArray} {mx : Nat} {rm : Room} {Q : Option Value → Heap → List Loc → Prop} {stk argsL rest : List Value} {ps : List FieldType} {pr : Option FieldType} {a : Addr}
    (C : OwC p Z s m meth c own nm bytes maxL ret) (X : Stand p l e R s m args below meth c T locs cells slots) (eT : T.heap = h) (hni : y.name = "<init>")
    (w1 : (Jvm.Cond.methodLink own index y).before a0 Z = true) (w2 : (Jvm.Cond.instanceMethod y).before a0 Z = true) (w3 : (Jvm.Cond.initialized y.cls).before a0 Z = true) (w4 : (Jvm.Cond.code y by' mx none).before a0 Z = true) (hy : y.cls ≠ "java/lang/invoke/MethodHandle" ∧ y.cls ≠ "java/lang/invoke/VarHandle")
    (M : OwCon l y by' mx none rm Z (.ref a :: argsL).toArray h Q) (hds : parseMethodDescriptor y.desc = some ⟨ps, pr⟩) (hln : argsL.length = ps.length) (hst : stk = argsL.reverse ++ .ref a :: rest) (hsz : Ls.size = maxL)
    (hd : decode bytes pc = .ok (.invokespecial index, 3)) (hfr : rm.frames + 1 ≤ R.frames) (hlo : owCat rest + (mx + 11) + rm.locals ≤ R.locals) (hcl : cells + rm.cells ≤ R.cells) (hsl : slots + rm.slots ≤ R.slots) (hp : pc + 3 = pc')
    (k : ∀ T' v L, Stand p l e R s m args below meth c T' (locs ++ L) (cells + rm.cells) (slots + rm.slots) → Q v T'.heap L → OwF p e below D T' (mkF m pc' Ls (v.toList ++ rest))) : OwF p e below D T (mkF m pc Ls stk) := by
  subst hp; subst hst
  have hZ := C.2.2.2.2.2.2.2
  obtain ⟨v, _, ⟨T', L', k', n'⟩, -, X', ⟨Lc, hQ, l', y', z'⟩, st⟩ := X.specialBack C.1 (y := y) hni C.2.2.2.1 (mvT hZ w1) (mvT hZ w2) (mvT hZ w4) hy (backOf (W := owCat rest) (M []) hZ w4 w3 hfr hlo) (g := mkF m pc Ls (argsL.reverse ++ .ref a :: rest)) rfl (by rw [C.2.2.1]; exact hsz) (Steps.refl _) (a := a) (argsL := argsL) (rest := rest) (lenOf hds hln) rfl (by show 2 * 0 + owCat rest ≤ owCat rest; omega) (hb C.2.1 hd) (fun _ _ => ⟨rfl, eT, hcl, hsl⟩)
  dsimp only [Pt.U, Pt.locs, Pt.cells, Pt.slots] at X' l' y' z' st hQ
  subst l' y' z'
  exact OwF.st (fun _ q => st.trans q) (k T' v Lc X' hQ)
/-- an instance method by its contract -/
theorem ow_callV {K : String} {index : Nat} {y : MethodName} {by' : ByteArray} {mx : Nat} {rt : Option FieldType} {rm : Room} {Q : Option Value → Heap → List Loc → Prop} {stk argsL rest : List Value} {ps : List FieldType} {pr : Option FieldType} {a : Addr}
    (C : OwC p Z s m meth c own nm bytes maxL ret) (X : Stand p l e R s m args below meth c T locs cells slots) (eT : T.heap = h)
    (w1 : (Jvm.Cond.methodLink own index y).before a0 Z = true) (w2 : (Jvm.Cond.declares y).before a0 Z = true) (w5 : (Jvm.Cond.selects K y y).before a0 Z = true) (hK : K = y.cls) (w6 : (Jvm.Cond.instanceMethod y).before a0 Z = true) (w3 : (Jvm.Cond.initialized y.cls).before a0 Z = true) (w4 : (Jvm.Cond.code y by' mx rt).before a0 Z = true)
    (hy : y.cls ≠ "java/lang/invoke/MethodHandle" ∧ y.cls ≠ "java/lang/invoke/VarHandle") (E : Exa Z h a K)
    (M : OwCon l y by' mx rt rm Z (.ref a :: argsL).toArray h Q) (hds : parseMethodDescriptor y.desc = some ⟨ps, pr⟩) (hln : argsL.length = ps.length) (hst : stk = argsL.reverse ++ .ref a :: rest) (hsz : Ls.size = maxL)
    (hd : decode bytes pc = .ok (.invokevirtual index, 3)) (hfr : rm.frames + 1 ≤ R.frames) (hlo : owCat rest + (mx + 11) + rm.locals ≤ R.locals) (hcl : cells + rm.cells ≤ R.cells) (hsl : slots + rm.slots ≤ R.slots) (hp : pc + 3 = pc')
    (k : ∀ T' v L, Stand p l e R s m args below meth c T' (locs ++ L) (cells + rm.cells) (slots + rm.slots) → Q v T'.heap L → OwF p e below D T' (mkF m pc' Ls (v.toList ++ rest))) : OwF p e below D T (mkF m pc Ls stk) := by
  subst hp; subst hst; subst hK
  have hZ := C.2.2.2.2.2.2.2
  obtain ⟨cq, kq, q1, q2, q3⟩ := isOf hZ eT E
  obtain ⟨v, _, ⟨T', L', k', n'⟩, -, X', ⟨Lc, hQ, l', y', z'⟩, st⟩ := X.virtualBack C.1 (y := y) (z := y) C.2.2.2.1 (mvT hZ w1) (mvT hZ w2) (notFace_of_selects (args := #[]) (mvT hZ w5)) (mvT hZ w5) (mvT hZ w6) hy (backOf (W := owCat rest) (M []) hZ w4 w3 hfr hlo) q1 q3 (g := mkF m pc Ls (argsL.reverse ++ .ref a :: rest)) rfl (by rw [C.2.2.1]; exact hsz) (Steps.refl _) (argsL := argsL) (rest := rest) (lenOf hds hln) rfl (by show 2 * 0 + owCat rest ≤ owCat rest; omega) (hb C.2.1 hd) (fun _ _ => ⟨rfl, eT, hcl, hsl⟩)
  dsimp only [Pt.U, Pt.locs, Pt.cells, Pt.slots] at X' l' y' z' st hQ
  subst l' y' z'
  exact OwF.st (fun _ q => st.trans q) (k T' v Lc X' hQ)
/-- a pure answer: the value, nothing written, the heap as it was -/
abbrev OwP (v : Option Value) (h : Heap) (v' : Option Value) (h' : Heap) (L : List Loc) : Prop := v' = v ∧ L = [] ∧ h' = h
/-- a pure static method -/
theorem ow_callSP {index : Nat} {y : MethodName} {by' : ByteArray} {mx : Nat} {rt : Option FieldType} {rm : Room} {v : Value} {stk argsL rest : List Value} {ps : List FieldType} {pr : Option FieldType}
    (C : OwC p Z s m meth c own nm bytes maxL ret) (X : Stand p l e R s m args below meth c T locs cells slots) (eT : T.heap = h)
    (w1 : (Jvm.Cond.methodLink own index y).before a0 Z = true) (w2 : (Jvm.Cond.static y).before a0 Z = true) (w3 : (Jvm.Cond.initialized y.cls).before a0 Z = true) (w4 : (Jvm.Cond.code y by' mx rt).before a0 Z = true) (hy : y.cls ≠ "java/lang/invoke/MethodHandle" ∧ y.cls ≠ "java/lang/invoke/VarHandle")
    (M : OwCon l y by' mx rt rm Z argsL.toArray h (OwP (some v) h)) (hrm : rm.cells = 0 ∧ rm.slots = 0) (hds : parseMethodDescriptor y.desc = some ⟨ps, pr⟩) (hln : argsL.length = ps.length) (hst : stk = argsL.reverse ++ rest) (hsz : Ls.size = maxL)
    (hd : decode bytes pc = .ok (.invokestatic index, 3)) (hfr : rm.frames + 1 ≤ R.frames) (hlo : owCat rest + (mx + 11) + rm.locals ≤ R.locals) (hcl : cells ≤ R.cells) (hsl : slots ≤ R.slots) (hp : pc + 3 = pc')
    (k : ∀ T', Stand p l e R s m args below meth c T' locs cells slots → T'.heap = h → OwF p e below D T' (mkF m pc' Ls (v :: rest))) : OwF p e below D T (mkF m pc Ls stk) := by
  refine ow_callS C X eT w1 w2 w3 w4 hy M hds hln hst hsz hd hfr hlo (by rw [hrm.1]; exact hcl) (by rw [hrm.2]; exact hsl) hp fun T' v' L' X' hQ => ?_
  obtain ⟨rfl, rfl, hh⟩ := hQ
  rw [hrm.1, hrm.2, List.append_nil] at X'
  exact k T' X' hh
/-- a pure instance method -/
theorem ow_callVP {K : String} {index : Nat} {y : MethodName} {by' : ByteArray} {mx : Nat} {rt : Option FieldType} {rm : Room} {v : Value} {stk argsL rest : List Value} {ps : List FieldType} {pr : Option FieldType} {a : Addr}
    (C : OwC p Z s m meth c own nm bytes maxL ret) (X : Stand p l e R s m args below meth c T locs cells slots) (eT : T.heap = h)
    (w1 : (Jvm.Cond.methodLink own index y).before a0 Z = true) (w2 : (Jvm.Cond.declares y).before a0 Z = true) (w5 : (Jvm.Cond.selects K y y).before a0 Z = true) (hK : K = y.cls) (w6 : (Jvm.Cond.instanceMethod y).before a0 Z = true) (w3 : (Jvm.Cond.initialized y.cls).before a0 Z = true) (w4 : (Jvm.Cond.code y by' mx rt).before a0 Z = true)
    (hy : y.cls ≠ "java/lang/invoke/MethodHandle" ∧ y.cls ≠ "java/lang/invoke/VarHandle") (E : Exa Z h a K)
    (M : OwCon l y by' mx rt rm Z (.ref a :: argsL).toArray h (OwP (some v) h)) (hrm : rm.cells = 0 ∧ rm.slots = 0) (hds : parseMethodDescriptor y.desc = some ⟨ps, pr⟩) (hln : argsL.length = ps.length) (hst : stk = argsL.reverse ++ .ref a :: rest) (hsz : Ls.size = maxL)
    (hd : decode bytes pc = .ok (.invokevirtual index, 3)) (hfr : rm.frames + 1 ≤ R.frames) (hlo : owCat rest + (mx + 11) + rm.locals ≤ R.locals) (hcl : cells ≤ R.cells) (hsl : slots ≤ R.slots) (hp : pc + 3 = pc')
    (k : ∀ T', Stand p l e R s m args below meth c T' locs cells slots → T'.heap = h → OwF p e below D T' (mkF m pc' Ls (v :: rest))) : OwF p e below D T (mkF m pc Ls stk) := by
  refine ow_callV C X eT w1 w2 w5 hK w6 w3 w4 hy E M hds hln hst hsz hd hfr hlo (by rw [hrm.1]; exact hcl) (by rw [hrm.2]; exact hsl) hp fun T' v' L' X' hQ => ?_
  obtain ⟨rfl, rfl, hh⟩ := hQ
  rw [hrm.1, hrm.2, List.append_nil] at X'
  exact k T' X' hh
/-- a constructor that leaves all as it is -/
theorem ow_callNP {index : Nat} {y : MethodName} {by' : ByteArray} {mx : Nat} {rm : Room} {stk argsL rest : List Value} {ps : List FieldType} {pr : Option FieldType} {a : Addr}
    (C : OwC p Z s m meth c own nm bytes maxL ret) (X : Stand p l e R s m args below meth c T locs cells slots) (eT : T.heap = h) (hni : y.name = "<init>")
    (w1 : (Jvm.Cond.methodLink own index y).before a0 Z = true) (w2 : (Jvm.Cond.instanceMethod y).before a0 Z = true) (w3 : (Jvm.Cond.initialized y.cls).before a0 Z = true) (w4 : (Jvm.Cond.code y by' mx none).before a0 Z = true) (hy : y.cls ≠ "java/lang/invoke/MethodHandle" ∧ y.cls ≠ "java/lang/invoke/VarHandle")
    (M : OwCon l y by' mx none rm Z (.ref a :: argsL).toArray h (OwP none h)) (hrm : rm.cells = 0 ∧ rm.slots = 0) (hds : parseMethodDescriptor y.desc = some ⟨ps, pr⟩) (hln : argsL.length = ps.length) (hst : stk = argsL.reverse ++ .ref a :: rest) (hsz : Ls.size = maxL)
    (hd : decode bytes pc = .ok (.invokespecial index, 3)) (hfr : rm.frames + 1 ≤ R.frames) (hlo : owCat rest + (mx + 11) + rm.locals ≤ R.locals) (hcl : cells ≤ R.cells) (hsl : slots ≤ R.slots) (hp : pc + 3 = pc')
    (k : ∀ T', Stand p l e R s m args below meth c T' locs cells slots → T'.heap = h → OwF p e below D T' (mkF m pc' Ls rest)) : OwF p e below D T (mkF m pc Ls stk) := by
  refine ow_callN C X eT hni w1 w2 w3 w4 hy M hds hln hst hsz hd hfr hlo (by rw [hrm.1]; exact hcl) (by rw [hrm.2]; exact hsl) hp fun T' v' L' X' hQ => ?_
  obtain ⟨rfl, rfl, hh⟩ := hQ
  rw [hrm.1, hrm.2, List.append_nil] at X'
  exact k T' X' hh
end OwnObj
section OwnArr
variable {p : Program} {l : Launch} {e : Env} {R : Room} {s : State} {m : MethodId} {args : Array Value} {below : List Frame} {meth : Method} {c : Code} {T : State} {locs : List Loc} {cells slots : Nat} {Z : State} {a0 : Array Value} {h h' : Heap}
variable {own nm : String} {bytes : ByteArray} {maxL : Nat} {ret : Option FieldType} {D : State → Outcome → Prop} {pc pc' pcT : Nat} {Ls Ls' : Array Slot} {r : List Value}
variable {a b : Addr} {ty : FieldType} {n i : Nat} {f g : Nat → Value} {v : Value} {sl : Nat} {ws : List Addr} {K : String} {kk : Nat}
/-- an array of n places, place j holds f j -/
def OwA (Z : State) (h : Heap) (a : Addr) (ty : FieldType) (n : Nat) (f : Nat → Value) : Prop := ∃ c : Cell, Arr Z h a c ty ∧ c.slots.size = n ∧ ∀ j, j < n → c.slots[j]? = some (f j)
theorem OwA.lt (A : OwA Z h a ty n f) : a < h.size := by obtain ⟨c, A, -⟩ := A; exact A.lt
theorem OwA.ext (A : OwA Z h a ty n f) (E : Ext h h') : OwA Z h' a ty n f := by obtain ⟨c, A, r⟩ := A; exact ⟨c, A.ext E, r⟩
theorem OwA.other (A : OwA Z h b ty n f) (W : Wr h h' a sl v) (q : b ≠ a) : OwA Z h' b ty n f := by obtain ⟨c, A, r⟩ := A; exact ⟨c, A.other W q, r⟩
theorem OwA.keep (A : OwA Z h a ty n f) (K : Keep h h' ws) (q : a ∉ ws) : OwA Z h' a ty n f := by obtain ⟨c, A, r⟩ := A; exact ⟨c, ⟨K.2.1 a c A.1 q, A.2⟩, r⟩
theorem OwA.congr (A : OwA Z h a ty n f) (q : ∀ j, j < n → f j = g j) : OwA Z h a ty n g := by obtain ⟨c, A, S, H⟩ := A; exact ⟨c, A, S, fun j hj => by rw [← q j hj]; exact H j hj⟩
theorem OwA.set (A : OwA Z h a ty n f) (W : Wr h h' a i v) : OwA Z h' a ty n (fun j => if j = i then v else f j) := by
  obtain ⟨c, A, S, H⟩ := A
  refine ⟨c.setSlot i v, A.same W, by rw [sz_set]; exact S, fun j hj => ?_⟩
  show (c.slots.setIfInBounds i v)[j]? = some (if j = i then v else f j)
  by_cases q : j = i
  · subst q
    rw [if_pos rfl, Array.getElem?_setIfInBounds_self_of_lt (by omega)]
  · rw [if_neg q, Array.getElem?_setIfInBounds_ne (fun w => q w.symm)]; exact H j hj
theorem OwA.new {k : ClassId} {z : Int32} (A : Arr Z h a (newA k ty z) ty) : OwA Z h a ty z.toNatClampNeg (fun _ => defaultValue ty) := by
  refine ⟨_, A, sz_new _ _ _, fun j hj => ?_⟩
  show (Array.replicate z.toNatClampNeg (defaultValue ty))[j]? = _
  rw [Array.getElem?_replicate, if_pos hj]
theorem OwA.ne (A : OwA Z h b ty n f) (E : Exa Z h a K) (wi : (Jvm.Cond.instantiable K kk).before a0 Z = true) : a ≠ b := by obtain ⟨c, A, -⟩ := A; exact ne_arr E wi A
theorem ow_newarr {aty : ArrayType} {z : Int32} {N cap : Nat} (C : OwC p Z s m meth c own nm bytes maxL ret) (X : Stand p l e R s m args below meth c T locs cells slots) (eT : T.heap = h) (w : (Jvm.Cond.arrayClass (newarray.typeOf aty)).before a0 Z = true) (hd : decode bytes pc = .ok (.newarray aty, 2))
    (hn : ¬ z < 0) (hN : z.toNatClampNeg = N) (hcap : N ≤ cap) (hb8 : cap * 8 ≤ 536870912) (hc : cells + 1 ≤ R.cells) (hl : slots + cap ≤ R.slots) (hp : pc + 2 = pc')
    (k : ∀ T' h' a, a = h.size → Stand p l e R s m args below meth c T' locs (cells + 1) (slots + cap) → T'.heap = h' → Ext h h' → OwA Z h' a (newarray.typeOf aty) N (fun _ => defaultValue (newarray.typeOf aty)) → OwF p e below D T' (mkF m pc' Ls (.ref a :: r))) : OwF p e below D T (mkF m pc Ls (.int z :: r)) := by
  subst hp; subst hN
  obtain ⟨T', h', cA, X', e', E', A', st⟩ := newP X C.1 C.2.2.2.2.2.2.2 w eT (g := mkF m pc Ls (.int z :: r)) rfl (hb C.2.1 hd) rfl hn hcap hb8 hc hl
  exact OwF.st st (k T' h' _ rfl X' e' E' (OwA.new A'))
theorem ow_arraylength {z : Int32} (C : OwC p Z s m meth c own nm bytes maxL ret) (X : Stand p l e R s m args below meth c T locs cells slots) (eT : T.heap = h) (A : OwA Z h a ty n f) (hz : n.toInt32 = z) (hd : decode bytes pc = .ok (.arraylength, 1)) (hp : pc + 1 = pc')
    (k : OwF p e below D T (mkF m pc' Ls (.int z :: r))) : OwF p e below D T (mkF m pc Ls (.ref a :: r)) := by
  subst hp; subst hz
  obtain ⟨cl, A, S, -⟩ := A
  subst S
  exact OwF.st (fun t q => X.arraylength C.1 (by rw [eT]; exact A.1) (State.isArrayOf_alike C.2.2.2.2.2.2.2.alike A.2.1) (g := mkF m pc Ls (.ref a :: r)) rfl rfl (hb C.2.1 hd) t q) k
theorem ow_iaload {z : Int32} (C : OwC p Z s m meth c own nm bytes maxL ret) (X : Stand p l e R s m args below meth c T locs cells slots) (eT : T.heap = h) (A : OwA Z h a .int n f) (h0 : ¬ z < 0) (hj : z.toNatClampNeg = i) (hlt : i < n) (hv : f i = v) (hd : decode bytes pc = .ok (.iaload, 1)) (hp : pc + 1 = pc')
    (k : OwF p e below D T (mkF m pc' Ls (v :: r))) : OwF p e below D T (mkF m pc Ls (.int z :: .ref a :: r)) := by
  subst hp; subst hj; subst hv
  obtain ⟨cl, A, S, H⟩ := A
  exact OwF.st (fun t q => X.iaload C.1 (by rw [eT]; exact A.1) (State.isArrayOf_alike C.2.2.2.2.2.2.2.alike A.2.1) A.2.2 (fun w => w.elim h0 (fun w => by omega)) (H _ hlt) (g := mkF m pc Ls (.int z :: .ref a :: r)) rfl rfl (hb C.2.1 hd) t q) k
theorem ow_laload {z : Int32} (C : OwC p Z s m meth c own nm bytes maxL ret) (X : Stand p l e R s m args below meth c T locs cells slots) (eT : T.heap = h) (A : OwA Z h a .long n f) (h0 : ¬ z < 0) (hj : z.toNatClampNeg = i) (hlt : i < n) (hv : f i = v) (hd : decode bytes pc = .ok (.laload, 1)) (hp : pc + 1 = pc')
    (k : OwF p e below D T (mkF m pc' Ls (v :: r))) : OwF p e below D T (mkF m pc Ls (.int z :: .ref a :: r)) := by
  subst hp; subst hj; subst hv
  obtain ⟨cl, A, S, H⟩ := A
  exact OwF.st (fun t q => X.laload C.1 (by rw [eT]; exact A.1) (State.isArrayOf_alike C.2.2.2.2.2.2.2.alike A.2.1) A.2.2 (fun w => w.elim h0 (fun w => by omega)) (H _ hlt) (g := mkF m pc Ls (.int z :: .ref a :: r)) rfl rfl (hb C.2.1 hd) t q) k
theorem ow_caload {z : Int32} (C : OwC p Z s m meth c own nm bytes maxL ret) (X : Stand p l e R s m args below meth c T locs cells slots) (eT : T.heap = h) (A : OwA Z h a .char n f) (h0 : ¬ z < 0) (hj : z.toNatClampNeg = i) (hlt : i < n) (hv : f i = v) (hd : decode bytes pc = .ok (.caload, 1)) (hp : pc + 1 = pc')
    (k : OwF p e below D T (mkF m pc' Ls (v :: r))) : OwF p e below D T (mkF m pc Ls (.int z :: .ref a :: r)) := by
  subst hp; subst hj; subst hv
  obtain ⟨cl, A, S, H⟩ := A
  exact OwF.st (fun t q => X.caload C.1 (by rw [eT]; exact A.1) (State.isArrayOf_alike C.2.2.2.2.2.2.2.alike A.2.1) A.2.2 (fun w => w.elim h0 (fun w => by omega)) (H _ hlt) (g := mkF m pc Ls (.int z :: .ref a :: r)) rfl rfl (hb C.2.1 hd) t q) k
theorem ow_saload {z : Int32} (C : OwC p Z s m meth c own nm bytes maxL ret) (X : Stand p l e R s m args below meth c T locs cells slots) (eT : T.heap = h) (A : OwA Z h a .short n f) (h0 : ¬ z < 0) (hj : z.toNatClampNeg = i) (hlt : i < n) (hv : f i = v) (hd : decode bytes pc = .ok (.saload, 1)) (hp : pc + 1 = pc')
    (k : OwF p e below D T (mkF m pc' Ls (v :: r))) : OwF p e below D T (mkF m pc Ls (.int z :: .ref a :: r)) := by
  subst hp; subst hj; subst hv
  obtain ⟨cl, A, S, H⟩ := A
  exact OwF.st (fun t q => X.saload C.1 (by rw [eT]; exact A.1) (State.isArrayOf_alike C.2.2.2.2.2.2.2.alike A.2.1) A.2.2 (fun w => w.elim h0 (fun w => by omega)) (H _ hlt) (g := mkF m pc Ls (.int z :: .ref a :: r)) rfl rfl (hb C.2.1 hd) t q) k
theorem ow_aaload {z : Int32} (C : OwC p Z s m meth c own nm bytes maxL ret) (X : Stand p l e R s m args below meth c T locs cells slots) (eT : T.heap = h) (A : OwA Z h a ty n f) (hty : ty.isReference = true) (h0 : ¬ z < 0) (hj : z.toNatClampNeg = i) (hlt : i < n) (hv : f i = v) (hd : decode bytes pc = .ok (.aaload, 1)) (hp : pc + 1 = pc')
    (k : OwF p e below D T (mkF m pc' Ls (v :: r))) : OwF p e below D T (mkF m pc Ls (.int z :: .ref a :: r)) := by
  subst hp; subst hj; subst hv
  obtain ⟨cl, A, S, H⟩ := A
  exact OwF.st (fun t q => X.aaload C.1 (by rw [eT]; exact A.1) (State.isArrayOf_alike C.2.2.2.2.2.2.2.alike A.2.1) hty A.2.2 (fun w => w.elim h0 (fun w => by omega)) (H _ hlt) (g := mkF m pc Ls (.int z :: .ref a :: r)) rfl rfl (hb C.2.1 hd) t q) k
theorem ow_baload {z : Int32} (C : OwC p Z s m meth c own nm bytes maxL ret) (X : Stand p l e R s m args below meth c T locs cells slots) (eT : T.heap = h) (A : OwA Z h a .byte n f) (h0 : ¬ z < 0) (hj : z.toNatClampNeg = i) (hlt : i < n) (hv : f i = v) (hd : decode bytes pc = .ok (.baload, 1)) (hp : pc + 1 = pc')
    (k : OwF p e below D T (mkF m pc' Ls (v :: r))) : OwF p e below D T (mkF m pc Ls (.int z :: .ref a :: r)) := by
  subst hp; subst hj; subst hv
  obtain ⟨cl, A, S, H⟩ := A
  exact OwF.st (fun t q => X.baloadBytes C.1 (by rw [eT]; exact A.1) (State.isArrayOf_alike C.2.2.2.2.2.2.2.alike A.2.1) A.2.2 (fun w => w.elim h0 (fun w => by omega)) (H _ hlt) (g := mkF m pc Ls (.int z :: .ref a :: r)) rfl rfl (hb C.2.1 hd) t q) k
theorem ow_iastore {z : Int32} {x : Int32} (C : OwC p Z s m meth c own nm bytes maxL ret) (X : Stand p l e R s m args below meth c T locs cells slots) (eT : T.heap = h) (A : OwA Z h a .int n f) (h0 : ¬ z < 0) (hj : z.toNatClampNeg = i) (hlt : i < n) (hd : decode bytes pc = .ok (.iastore, 1)) (hp : pc + 1 = pc')
    (k : ∀ T' h', Stand p l e R s m args below meth c T' (locs ++ [⟨a, i⟩]) cells slots → T'.heap = h' → Wr h h' a i (.int x) → OwF p e below D T' (mkF m pc' Ls r)) : OwF p e below D T (mkF m pc Ls (.int x :: .int z :: .ref a :: r)) := by
  subst hp; subst hj
  obtain ⟨cl, A, S, H⟩ := A
  obtain ⟨T', h', X', e', W', st⟩ := stI X C.1 C.2.2.2.2.2.2.2 eT A (j := z) (x := x) (fun w => w.elim h0 (fun w => by omega)) (g := mkF m pc Ls (.int x :: .int z :: .ref a :: r)) rfl rfl (hb C.2.1 hd)
  exact OwF.st st (k T' h' X' e' W')
theorem ow_lastore {z : Int32} {x : Int64} (C : OwC p Z s m meth c own nm bytes maxL ret) (X : Stand p l e R s m args below meth c T locs cells slots) (eT : T.heap = h) (A : OwA Z h a .long n f) (h0 : ¬ z < 0) (hj : z.toNatClampNeg = i) (hlt : i < n) (hd : decode bytes pc = .ok (.lastore, 1)) (hp : pc + 1 = pc')
    (k : ∀ T' h', Stand p l e R s m args below meth c T' (locs ++ [⟨a, i⟩]) cells slots → T'.heap = h' → Wr h h' a i (.long x) → OwF p e below D T' (mkF m pc' Ls r)) : OwF p e below D T (mkF m pc Ls (.long x :: .int z :: .ref a :: r)) := by
  subst hp; subst hj
  obtain ⟨cl, A, S, H⟩ := A
  obtain ⟨T', h', X', e', W', st⟩ := stJ X C.1 C.2.2.2.2.2.2.2 eT A (j := z) (x := x) (fun w => w.elim h0 (fun w => by omega)) (g := mkF m pc Ls (.long x :: .int z :: .ref a :: r)) rfl rfl (hb C.2.1 hd)
  exact OwF.st st (k T' h' X' e' W')
theorem ow_castore {z : Int32} {x : Int32} (C : OwC p Z s m meth c own nm bytes maxL ret) (X : Stand p l e R s m args below meth c T locs cells slots) (eT : T.heap = h) (A : OwA Z h a .char n f) (h0 : ¬ z < 0) (hj : z.toNatClampNeg = i) (hlt : i < n) (hd : decode bytes pc = .ok (.castore, 1)) (hp : pc + 1 = pc')
    (k : ∀ T' h', Stand p l e R s m args below meth c T' (locs ++ [⟨a, i⟩]) cells slots → T'.heap = h' → Wr h h' a i (.int (nar .char x)) → OwF p e below D T' (mkF m pc' Ls r)) : OwF p e below D T (mkF m pc Ls (.int x :: .int z :: .ref a :: r)) := by
  subst hp; subst hj
  obtain ⟨cl, A, S, H⟩ := A
  obtain ⟨T', h', X', e', W', st⟩ := stC X C.1 C.2.2.2.2.2.2.2 eT A (j := z) (x := x) (fun w => w.elim h0 (fun w => by omega)) (g := mkF m pc Ls (.int x :: .int z :: .ref a :: r)) rfl rfl (hb C.2.1 hd)
  exact OwF.st st (k T' h' X' e' W')
theorem ow_sastore {z : Int32} {x : Int32} (C : OwC p Z s m meth c own nm bytes maxL ret) (X : Stand p l e R s m args below meth c T locs cells slots) (eT : T.heap = h) (A : OwA Z h a .short n f) (h0 : ¬ z < 0) (hj : z.toNatClampNeg = i) (hlt : i < n) (hd : decode bytes pc = .ok (.sastore, 1)) (hp : pc + 1 = pc')
    (k : ∀ T' h', Stand p l e R s m args below meth c T' (locs ++ [⟨a, i⟩]) cells slots → T'.heap = h' → Wr h h' a i (.int (nar .short x)) → OwF p e below D T' (mkF m pc' Ls r)) : OwF p e below D T (mkF m pc Ls (.int x :: .int z :: .ref a :: r)) := by
  subst hp; subst hj
  obtain ⟨cl, A, S, H⟩ := A
  obtain ⟨T', h', X', e', W', st⟩ := stS X C.1 C.2.2.2.2.2.2.2 eT A (j := z) (x := x) (fun w => w.elim h0 (fun w => by omega)) (g := mkF m pc Ls (.int x :: .int z :: .ref a :: r)) rfl rfl (hb C.2.1 hd)
  exact OwF.st st (k T' h' X' e' W')
theorem ow_bastore {z : Int32} {x : Int32} (C : OwC p Z s m meth c own nm bytes maxL ret) (X : Stand p l e R s m args below meth c T locs cells slots) (eT : T.heap = h) (A : OwA Z h a .byte n f) (h0 : ¬ z < 0) (hj : z.toNatClampNeg = i) (hlt : i < n) (hd : decode bytes pc = .ok (.bastore, 1)) (hp : pc + 1 = pc')
    (k : ∀ T' h', Stand p l e R s m args below meth c T' (locs ++ [⟨a, i⟩]) cells slots → T'.heap = h' → Wr h h' a i (.int (nar .byte x)) → OwF p e below D T' (mkF m pc' Ls r)) : OwF p e below D T (mkF m pc Ls (.int x :: .int z :: .ref a :: r)) := by
  subst hp; subst hj
  obtain ⟨cl, A, S, H⟩ := A
  obtain ⟨T', h', X', e', W', st⟩ := stB X C.1 C.2.2.2.2.2.2.2 eT A (j := z) (x := x) (fun w => w.elim h0 (fun w => by omega)) (g := mkF m pc Ls (.int x :: .int z :: .ref a :: r)) rfl rfl (hb C.2.1 hd)
  exact OwF.st st (k T' h' X' e' W')
end OwnArr
theorem own_nm {a b : Addr} (h : a ≠ b) : a ∉ [b] := fun q => h (List.mem_singleton.mp q)
def own_cn (bs : List Nat) (j : Nat) : Int64 := Int64.ofNat (bs.count j)
def own_S (bs : List Nat) (i : Nat) : Int64 := Int64.ofNat (bs.countP (fun b => decide (b ≤ i)))
theorem own_cn_cons (bs : List Nat) (B j : Nat) : (if j = B then own_cn bs B + 1 else own_cn bs j) = own_cn (B :: bs) j := by
  unfold own_cn
  by_cases h : j = B
  · subst h; rw [if_pos rfl, List.count_cons_self, Int64.ofNat_add]; rfl
  · rw [if_neg h, List.count_cons_of_ne (fun q => h q.symm)]
theorem own_len_cons (bs : List Nat) (B : Nat) : Int64.ofNat bs.length + 1 = Int64.ofNat (B :: bs).length := by
  rw [List.length_cons, Int64.ofNat_add]; rfl
theorem own_S0 (bs : List Nat) : own_cn bs 0 = own_S bs 0 := by
  unfold own_cn own_S
  congr 1
  rw [List.count_eq_countP]
  apply List.countP_congr
  intro x _
  simp
theorem own_Snext (bs : List Nat) (i : Nat) : own_S bs i + own_cn bs (i + 1) = own_S bs (i + 1) := by
  unfold own_S own_cn
  rw [← Int64.ofNat_add]
  congr 1
  induction bs with
  | nil => rfl
  | cons b bs ih =>
    rw [List.countP_cons, List.countP_cons, List.count_cons]
    by_cases h1 : b ≤ i
    · have : ¬ b = i + 1 := by omega
      simp [h1, this, show b ≤ i + 1 by omega] at ih ⊢; omega
    · by_cases h2 : b = i + 1
      · have h3 : ¬ i + 1 ≤ i := by omega
        simp [h2, h3] at ih ⊢; omega
      · simp [h1, h2, show ¬ b ≤ i + 1 by omega] at ih ⊢; omega
theorem own_inc (i : Nat) : Int32.ofNat i + 1 = Int32.ofNat (i + 1) := by rw [Int32.ofNat_add]; rfl
theorem own_ixI {i : Nat} (h : i < 2147483648) : (Int32.ofNat i).toInt = i := by
  rw [Int32.toInt_ofNat_of_lt]; omega
theorem own_ix0 {i : Nat} (h : i < 2147483648) : ¬ Int32.ofNat i < 0 := by rw [Int32.lt_iff_toInt_lt, own_ixI h]; show ¬ (i : Int) < 0; omega
theorem own_ixN {i : Nat} (h : i < 2147483648) : (Int32.ofNat i).toNatClampNeg = i := by
  show (Int32.ofNat i).toInt.toNat = i
  rw [own_ixI h]; rfl
def OwH (Z : State) (h : Heap) (n0 : Nat) (o : Addr) (bs : List Nat) : Prop := ∃ o2 : Addr, Exa Z h o "com/example/topsail/topsail/cli/LatencyHistogram" ∧ Fld Z h o "com/example/topsail/topsail/cli/LatencyHistogram" "counts" "[J" (.ref o2) ∧ Fld Z h o "com/example/topsail/topsail/cli/LatencyHistogram" "count" "J" (.long (Int64.ofNat bs.length)) ∧ OwA Z h o2 .long 55296 (fun j => .long (own_cn bs j)) ∧ n0 ≤ o ∧ n0 ≤ o2
theorem d10_0 : decode jdk_33_method_47_code 0 = .ok (.iload_n 0, 1) := by decide +kernel
theorem d10_1 : decode jdk_33_method_47_code 1 = .ok (.ifCond .gt 14, 3) := by decide +kernel
theorem d10_4 : decode jdk_33_method_47_code 4 = .ok (.iload_n 0, 1) := by decide +kernel
theorem d10_5 : decode jdk_33_method_47_code 5 = .ok (.ifCond .ne 8, 3) := by decide +kernel
theorem d10_8 : decode jdk_33_method_47_code 8 = .ok (.bipush 32, 2) := by decide +kernel
theorem d10_10 : decode jdk_33_method_47_code 10 = .ok (.goto 4, 3) := by decide +kernel
theorem d10_13 : decode jdk_33_method_47_code 13 = .ok (.iconst 0, 1) := by decide +kernel
theorem d10_14 : decode jdk_33_method_47_code 14 = .ok (.ireturn, 1) := by decide +kernel
theorem d10_15 : decode jdk_33_method_47_code 15 = .ok (.bipush 31, 2) := by decide +kernel
theorem d10_17 : decode jdk_33_method_47_code 17 = .ok (.istore_n 1, 1) := by decide +kernel
theorem d10_18 : decode jdk_33_method_47_code 18 = .ok (.iload_n 0, 1) := by decide +kernel
theorem d10_19 : decode jdk_33_method_47_code 19 = .ok (.ldc_w 264, 3) := by decide +kernel
theorem d10_22 : decode jdk_33_method_47_code 22 = .ok (.if_icmp .lt 11, 3) := by decide +kernel
theorem d10_25 : decode jdk_33_method_47_code 25 = .ok (.iinc 1 (-16), 3) := by decide +kernel
theorem d10_28 : decode jdk_33_method_47_code 28 = .ok (.iload_n 0, 1) := by decide +kernel
theorem d10_29 : decode jdk_33_method_47_code 29 = .ok (.bipush 16, 2) := by decide +kernel
theorem d10_31 : decode jdk_33_method_47_code 31 = .ok (.iushr, 1) := by decide +kernel
theorem d10_32 : decode jdk_33_method_47_code 32 = .ok (.istore_n 0, 1) := by decide +kernel
theorem d10_33 : decode jdk_33_method_47_code 33 = .ok (.iload_n 0, 1) := by decide +kernel
theorem d10_34 : decode jdk_33_method_47_code 34 = .ok (.sipush 256, 3) := by decide +kernel
theorem d10_37 : decode jdk_33_method_47_code 37 = .ok (.if_icmp .lt 11, 3) := by decide +kernel
theorem d10_40 : decode jdk_33_method_47_code 40 = .ok (.iinc 1 (-8), 3) := by decide +kernel
theorem d10_43 : decode jdk_33_method_47_code 43 = .ok (.iload_n 0, 1) := by decide +kernel
theorem d10_44 : decode jdk_33_method_47_code 44 = .ok (.bipush 8, 2) := by decide +kernel
theorem d10_46 : decode jdk_33_method_47_code 46 = .ok (.iushr, 1) := by decide +kernel
theorem d10_47 : decode jdk_33_method_47_code 47 = .ok (.istore_n 0, 1) := by decide +kernel
theorem d10_48 : decode jdk_33_method_47_code 48 = .ok (.iload_n 0, 1) := by decide +kernel
theorem d10_49 : decode jdk_33_method_47_code 49 = .ok (.bipush 16, 2) := by decide +kernel
theorem d10_51 : decode jdk_33_method_47_code 51 = .ok (.if_icmp .lt 10, 3) := by decide +kernel
theorem d10_54 : decode jdk_33_method_47_code 54 = .ok (.iinc 1 (-4), 3) := by decide +kernel
theorem d10_57 : decode jdk_33_method_47_code 57 = .ok (.iload_n 0, 1) := by decide +kernel
theorem d10_58 : decode jdk_33_method_47_code 58 = .ok (.iconst 4, 1) := by decide +kernel
theorem d10_59 : decode jdk_33_method_47_code 59 = .ok (.iushr, 1) := by decide +kernel
theorem d10_60 : decode jdk_33_method_47_code 60 = .ok (.istore_n 0, 1) := by decide +kernel
theorem d10_61 : decode jdk_33_method_47_code 61 = .ok (.iload_n 0, 1) := by decide +kernel
theorem d10_62 : decode jdk_33_method_47_code 62 = .ok (.iconst 4, 1) := by decide +kernel
theorem d10_63 : decode jdk_33_method_47_code 63 = .ok (.if_icmp .lt 10, 3) := by decide +kernel
theorem d10_66 : decode jdk_33_method_47_code 66 = .ok (.iinc 1 (-2), 3) := by decide +kernel
theorem d10_69 : decode jdk_33_method_47_code 69 = .ok (.iload_n 0, 1) := by decide +kernel
theorem d10_70 : decode jdk_33_method_47_code 70 = .ok (.iconst 2, 1) := by decide +kernel
theorem d10_71 : decode jdk_33_method_47_code 71 = .ok (.iushr, 1) := by decide +kernel
theorem d10_72 : decode jdk_33_method_47_code 72 = .ok (.istore_n 0, 1) := by decide +kernel
theorem d10_73 : decode jdk_33_method_47_code 73 = .ok (.iload_n 1, 1) := by decide +kernel
theorem d10_74 : decode jdk_33_method_47_code 74 = .ok (.iload_n 0, 1) := by decide +kernel
theorem d10_75 : decode jdk_33_method_47_code 75 = .ok (.iconst 1, 1) := by decide +kernel
theorem d10_76 : decode jdk_33_method_47_code 76 = .ok (.iushr, 1) := by decide +kernel
theorem d10_77 : decode jdk_33_method_47_code 77 = .ok (.isub, 1) := by decide +kernel
theorem d10_78 : decode jdk_33_method_47_code 78 = .ok (.ireturn, 1) := by decide +kernel
theorem pn_10 : plainFor (⟨"java/lang/Integer", "numberOfLeadingZeros", "(I)I"⟩ : MethodName) = true := by first | exact plainFor_of_name (by first | (simp [plainName, overriddenIn]; done) | decide +kernel) | decide +kernel
theorem pd_0 : parseMethodDescriptor "(I)I" = some ⟨[.int], (some .int)⟩ := by decide +kernel
def own_nlz_j33_l0 (q0 : Int32) : Int32 := if q0 < (65536 : Int32) then q0 else (XT.ushr q0 (16 : Int32))
def own_nlz_j33_l1 (q0 : Int32) : Int32 := if q0 < (65536 : Int32) then (31 : Int32) else ((31 : Int32) + (-16 : Int32))
def own_nlz_j48_l0 (q0 : Int32) : Int32 := if (own_nlz_j33_l0 q0) < (256 : Int32) then (own_nlz_j33_l0 q0) else (XT.ushr (own_nlz_j33_l0 q0) (8 : Int32))
def own_nlz_j48_l1 (q0 : Int32) : Int32 := if (own_nlz_j33_l0 q0) < (256 : Int32) then (own_nlz_j33_l1 q0) else ((own_nlz_j33_l1 q0) + (-8 : Int32))
def own_nlz_j61_l0 (q0 : Int32) : Int32 := if (own_nlz_j48_l0 q0) < (16 : Int32) then (own_nlz_j48_l0 q0) else (XT.ushr (own_nlz_j48_l0 q0) (4 : Int32))
def own_nlz_j61_l1 (q0 : Int32) : Int32 := if (own_nlz_j48_l0 q0) < (16 : Int32) then (own_nlz_j48_l1 q0) else ((own_nlz_j48_l1 q0) + (-4 : Int32))
def own_nlz_j73_l0 (q0 : Int32) : Int32 := if (own_nlz_j61_l0 q0) < (4 : Int32) then (own_nlz_j61_l0 q0) else (XT.ushr (own_nlz_j61_l0 q0) (2 : Int32))
def own_nlz_j73_l1 (q0 : Int32) : Int32 := if (own_nlz_j61_l0 q0) < (4 : Int32) then (own_nlz_j61_l1 q0) else ((own_nlz_j61_l1 q0) + (-2 : Int32))
def own_nlz (q0 : Int32) : Int32 := if 0 < q0 then ((own_nlz_j73_l1 q0) - (XT.ushr (own_nlz_j73_l0 q0) (1 : Int32))) else if q0 = 0 then (32 : Int32) else (0 : Int32)
set_option maxRecDepth 65536 in
set_option maxHeartbeats 40000000 in
theorem rm_nlz (l : Launch) (Z : State) (a0 : Array Value) (hw : ∀ d ∈ tables_1, d.before a0 Z = true) (q0 : Int32)  (h0 : Heap)   :
    OwCon l (⟨"java/lang/Integer", "numberOfLeadingZeros", "(I)I"⟩ : MethodName) jdk_33_method_47_code 2 (some .int) ({ frames := 0, cells := 0, slots := 0, locals := 0 } : Room) Z #[(.int q0)] h0 (OwP (some (.int (own_nlz q0))) h0) := by
  refine OwCon.of pn_10 (Ls := #[.val (.int q0), .unset]) (fun m => by first | (simp [entryFrame, mkF, argsToLocals, Value.category]; done) | rfl) ?_
  intro p e s m below meth c s₁ C X0 e0
  refine ow_iloadN C X0 d10_0 rfl (pc' := 1) rfl ?_
  refine ow_if_gt C X0 d10_1 (pcT := 15) (pc' := 4) (by decide) (by decide) rfl (fun b1 => ?_) (fun b1 => ?_)
  · refine ow_bipush (31 : Int32) C X0 d10_15 (by decide) (pc' := 17) rfl ?_
    refine ow_istoreN C X0 d10_17 (Ls' := #[.val (.int q0), .val (.int (31 : Int32))]) rfl (pc' := 18) rfl ?_
    refine ow_iloadN C X0 d10_18 rfl (pc' := 19) rfl ?_
    refine ow_ldcW C X0 (hw _ (List.mem_of_getElem? (i := 43) rfl)) d10_19 (pc' := 22) rfl ?_
    refine ow_join X0 e0 (f' := (mkF m 33 #[.val (.int (own_nlz_j33_l0 q0)), .val (.int (own_nlz_j33_l1 q0))] [])) ?_ (fun T1 X1 e1 => ?_)
    · intro D1 jk1
      refine ow_icmp_lt C X0 d10_22 (pcT := 33) (pc' := 25) (by decide) (by decide) rfl (fun b22 => ?_) (fun b22 => ?_)
      · have jq := jk1 s₁ X0 e0
        rw [show (own_nlz_j33_l0 q0) = q0 from by unfold own_nlz_j33_l0; (try rw [if_pos b22]); (try rfl)] at jq
        rw [show (own_nlz_j33_l1 q0) = (31 : Int32) from by unfold own_nlz_j33_l1; (try rw [if_pos b22]); (try rfl)] at jq
        exact jq
      · refine ow_iinc (-16 : Int32) C X0 d10_25 (by decide) rfl (Ls' := #[.val (.int q0), .val (.int ((31 : Int32) + (-16 : Int32)))]) rfl (pc' := 28) rfl ?_
        refine ow_iloadN C X0 d10_28 rfl (pc' := 29) rfl ?_
        refine ow_bipush (16 : Int32) C X0 d10_29 (by decide) (pc' := 31) rfl ?_
        refine ow_iushr C X0 d10_31 (pc' := 32) rfl ?_
        refine ow_istoreN C X0 d10_32 (Ls' := #[.val (.int (XT.ushr q0 (16 : Int32))), .val (.int ((31 : Int32) + (-16 : Int32)))]) rfl (pc' := 33) rfl ?_
        have jq := jk1 s₁ X0 e0
        rw [show (own_nlz_j33_l0 q0) = (XT.ushr q0 (16 : Int32)) from by unfold own_nlz_j33_l0; (try rw [if_neg b22]); (try rfl)] at jq
        rw [show (own_nlz_j33_l1 q0) = ((31 : Int32) + (-16 : Int32)) from by unfold own_nlz_j33_l1; (try rw [if_neg b22]); (try rfl)] at jq
        exact jq
    refine ow_iloadN C X1 d10_33 rfl (pc' := 34) rfl ?_
    refine ow_sipush (256 : Int32) C X1 d10_34 (by decide) (pc' := 37) rfl ?_
    refine ow_join X1 e1 (f' := (mkF m 48 #[.val (.int (own_nlz_j48_l0 q0)), .val (.int (own_nlz_j48_l1 q0))] [])) ?_ (fun T2 X2 e2 => ?_)
    · intro D2 jk2
      refine ow_icmp_lt C X1 d10_37 (pcT := 48) (pc' := 40) (by decide) (by decide) rfl (fun b37 => ?_) (fun b37 => ?_)
      · have jq := jk2 T1 X1 e1
        rw [show (own_nlz_j48_l0 q0) = (own_nlz_j33_l0 q0) from by unfold own_nlz_j48_l0; (try rw [if_pos b37]); (try rfl)] at jq
        rw [show (own_nlz_j48_l1 q0) = (own_nlz_j33_l1 q0) from by unfold own_nlz_j48_l1; (try rw [if_pos b37]); (try rfl)] at jq
        exact jq
      · refine ow_iinc (-8 : Int32) C X1 d10_40 (by decide) rfl (Ls' := #[.val (.int (own_nlz_j33_l0 q0)), .val (.int ((own_nlz_j33_l1 q0) + (-8 : Int32)))]) rfl (pc' := 43) rfl ?_
        refine ow_iloadN C X1 d10_43 rfl (pc' := 44) rfl ?_
        refine ow_bipush (8 : Int32) C X1 d10_44 (by decide) (pc' := 46) rfl ?_
        refine ow_iushr C X1 d10_46 (pc' := 47) rfl ?_
        refine ow_istoreN C X1 d10_47 (Ls' := #[.val (.int (XT.ushr (own_nlz_j33_l0 q0) (8 : Int32))), .val (.int ((own_nlz_j33_l1 q0) + (-8 : Int32)))]) rfl (pc' := 48) rfl ?_
        have jq := jk2 T1 X1 e1
        rw [show (own_nlz_j48_l0 q0) = (XT.ushr (own_nlz_j33_l0 q0) (8 : Int32)) from by unfold own_nlz_j48_l0; (try rw [if_neg b37]); (try rfl)] at jq
        rw [show (own_nlz_j48_l1 q0) = ((own_nlz_j33_l1 q0) + (-8 : Int32)) from by unfold own_nlz_j48_l1; (try rw [if_neg b37]); (try rfl)] at jq
        exact jq
    refine ow_iloadN C X2 d10_48 rfl (pc' := 49) rfl ?_
    refine ow_bipush (16 : Int32) C X2 d10_49 (by decide) (pc' := 51) rfl ?_
    refine ow_join X2 e2 (f' := (mkF m 61 #[.val (.int (own_nlz_j61_l0 q0)), .val (.int (own_nlz_j61_l1 q0))] [])) ?_ (fun T3 X3 e3 => ?_)
    · intro D3 jk3
      refine ow_icmp_lt C X2 d10_51 (pcT := 61) (pc' := 54) (by decide) (by decide) rfl (fun b51 => ?_) (fun b51 => ?_)
      · have jq := jk3 T2 X2 e2
        rw [show (own_nlz_j61_l0 q0) = (own_nlz_j48_l0 q0) from by unfold own_nlz_j61_l0; (try rw [if_pos b51]); (try rfl)] at jq
        rw [show (own_nlz_j61_l1 q0) = (own_nlz_j48_l1 q0) from by unfold own_nlz_j61_l1; (try rw [if_pos b51]); (try rfl)] at jq
        exact jq
      · refine ow_iinc (-4 : Int32) C X2 d10_54 (by decide) rfl (Ls' := #[.val (.int (own_nlz_j48_l0 q0)), .val (.int ((own_nlz_j48_l1 q0) + (-4 : Int32)))]) rfl (pc' := 57) rfl ?_
        refine ow_iloadN C X2 d10_57 rfl (pc' := 58) rfl ?_
        refine ow_iconst (4 : Int32) C X2 d10_58 (by decide) (pc' := 59) rfl ?_
        refine ow_iushr C X2 d10_59 (pc' := 60) rfl ?_
        refine ow_istoreN C X2 d10_60 (Ls' := #[.val (.int (XT.ushr (own_nlz_j48_l0 q0) (4 : Int32))), .val (.int ((own_nlz_j48_l1 q0) + (-4 : Int32)))]) rfl (pc' := 61) rfl ?_
        have jq := jk3 T2 X2 e2
        rw [show (own_nlz_j61_l0 q0) = (XT.ushr (own_nlz_j48_l0 q0) (4 : Int32)) from by unfold own_nlz_j61_l0; (try rw [if_neg b51]); (try rfl)] at jq
        rw [show (own_nlz_j61_l1 q0) = ((own_nlz_j48_l1 q0) + (-4 : Int32)) from by unfold own_nlz_j61_l1; (try rw [if_neg b51]); (try rfl)] at jq
        exact jq
    refine ow_iloadN C X3 d10_61 rfl (pc' := 62) rfl ?_
    refine ow_iconst (4 : Int32) C X3 d10_62 (by decide) (pc' := 63) rfl ?_
    refine ow_join X3 e3 (f' := (mkF m 73 #[.val (.int (own_nlz_j73_l0 q0)), .val (.int (own_nlz_j73_l1 q0))] [])) ?_ (fun T4 X4 e4 => ?_)
    · intro D4 jk4
      refine ow_icmp_lt C X3 d10_63 (pcT := 73) (pc' := 66) (by decide) (by decide) rfl (fun b63 => ?_) (fun b63 => ?_)
      · have jq := jk4 T3 X3 e3
        rw [show (own_nlz_j73_l0 q0) = (own_nlz_j61_l0 q0) from by unfold own_nlz_j73_l0; (try rw [if_pos b63]); (try rfl)] at jq
        rw [show (own_nlz_j73_l1 q0) = (own_nlz_j61_l1 q0) from by unfold own_nlz_j73_l1; (try rw [if_pos b63]); (try rfl)] at jq
        exact jq
      · refine ow_iinc (-2 : Int32) C X3 d10_66 (by decide) rfl (Ls' := #[.val (.int (own_nlz_j61_l0 q0)), .val (.int ((own_nlz_j61_l1 q0) + (-2 : Int32)))]) rfl (pc' := 69) rfl ?_
        refine ow_iloadN C X3 d10_69 rfl (pc' := 70) rfl ?_
        refine ow_iconst (2 : Int32) C X3 d10_70 (by decide) (pc' := 71) rfl ?_
        refine ow_iushr C X3 d10_71 (pc' := 72) rfl ?_
        refine ow_istoreN C X3 d10_72 (Ls' := #[.val (.int (XT.ushr (own_nlz_j61_l0 q0) (2 : Int32))), .val (.int ((own_nlz_j61_l1 q0) + (-2 : Int32)))]) rfl (pc' := 73) rfl ?_
        have jq := jk4 T3 X3 e3
        rw [show (own_nlz_j73_l0 q0) = (XT.ushr (own_nlz_j61_l0 q0) (2 : Int32)) from by unfold own_nlz_j73_l0; (try rw [if_neg b63]); (try rfl)] at jq
        rw [show (own_nlz_j73_l1 q0) = ((own_nlz_j61_l1 q0) + (-2 : Int32)) from by unfold own_nlz_j73_l1; (try rw [if_neg b63]); (try rfl)] at jq
        exact jq
    refine ow_iloadN C X4 d10_73 rfl (pc' := 74) rfl ?_
    refine ow_iloadN C X4 d10_74 rfl (pc' := 75) rfl ?_
    refine ow_iconst (1 : Int32) C X4 d10_75 (by decide) (pc' := 76) rfl ?_
    refine ow_iushr C X4 d10_76 (pc' := 77) rfl ?_
    refine ow_isub C X4 d10_77 (pc' := 78) rfl ?_
    exact ow_retI C X4 d10_78 (Nat.le_of_ble_eq_true rfl) (Nat.le_of_ble_eq_true rfl) ⟨(show some (Value.int ((own_nlz_j73_l1 q0) - (XT.ushr (own_nlz_j73_l0 q0) (1 : Int32)))) = some (Value.int (own_nlz q0)) from congrArg (fun z => some (Value.int z)) (by unfold own_nlz; rw [if_pos b1])), rfl, e4⟩
  · refine ow_iloadN C X0 d10_4 rfl (pc' := 5) rfl ?_
    refine ow_if_ne C X0 d10_5 (pcT := 13) (pc' := 8) (by decide) (by decide) rfl (fun b5 => ?_) (fun b5 => ?_)
    · refine ow_iconst (0 : Int32) C X0 d10_13 (by decide) (pc' := 14) rfl ?_
      exact ow_retI C X0 d10_14 (Nat.le_of_ble_eq_true rfl) (Nat.le_of_ble_eq_true rfl) ⟨(show some (Value.int (0 : Int32)) = some (Value.int (own_nlz q0)) from congrArg (fun z => some (Value.int z)) (by unfold own_nlz; rw [if_neg b1, if_neg b5])), rfl, e0⟩
    · refine ow_bipush (32 : Int32) C X0 d10_8 (by decide) (pc' := 10) rfl ?_
      refine ow_goto C X0 d10_10 (pcT := 14) (by decide) (by decide) ?_
      exact ow_retI C X0 d10_14 (Nat.le_of_ble_eq_true rfl) (Nat.le_of_ble_eq_true rfl) ⟨(show some (Value.int (32 : Int32)) = some (Value.int (own_nlz q0)) from congrArg (fun z => some (Value.int z)) (by unfold own_nlz; rw [if_neg b1, if_pos b5])), rfl, e0⟩
theorem d9_0 : decode jdk_35_method_48_code 0 = .ok (.lload_n 0, 1) := by decide +kernel
theorem d9_1 : decode jdk_35_method_48_code 1 = .ok (.bipush 32, 2) := by decide +kernel
theorem d9_3 : decode jdk_35_method_48_code 3 = .ok (.lushr, 1) := by decide +kernel
theorem d9_4 : decode jdk_35_method_48_code 4 = .ok (.l2i, 1) := by decide +kernel
theorem d9_5 : decode jdk_35_method_48_code 5 = .ok (.istore_n 2, 1) := by decide +kernel
theorem d9_6 : decode jdk_35_method_48_code 6 = .ok (.iload_n 2, 1) := by decide +kernel
theorem d9_7 : decode jdk_35_method_48_code 7 = .ok (.ifCond .ne 14, 3) := by decide +kernel
theorem d9_10 : decode jdk_35_method_48_code 10 = .ok (.bipush 32, 2) := by decide +kernel
theorem d9_12 : decode jdk_35_method_48_code 12 = .ok (.lload_n 0, 1) := by decide +kernel
theorem d9_13 : decode jdk_35_method_48_code 13 = .ok (.l2i, 1) := by decide +kernel
theorem d9_14 : decode jdk_35_method_48_code 14 = .ok (.invokestatic 308, 3) := by decide +kernel
theorem d9_17 : decode jdk_35_method_48_code 17 = .ok (.iadd, 1) := by decide +kernel
theorem d9_18 : decode jdk_35_method_48_code 18 = .ok (.goto 7, 3) := by decide +kernel
theorem d9_21 : decode jdk_35_method_48_code 21 = .ok (.iload_n 2, 1) := by decide +kernel
theorem d9_22 : decode jdk_35_method_48_code 22 = .ok (.invokestatic 308, 3) := by decide +kernel
theorem d9_25 : decode jdk_35_method_48_code 25 = .ok (.ireturn, 1) := by decide +kernel
theorem pn_9 : plainFor (⟨"java/lang/Long", "numberOfLeadingZeros", "(J)I"⟩ : MethodName) = true := by first | exact plainFor_of_name (by first | (simp [plainName, overriddenIn]; done) | decide +kernel) | decide +kernel
theorem pd_1 : parseMethodDescriptor "(J)I" = some ⟨[.long], (some .int)⟩ := by decide +kernel
def own_nlzl (q0 : Int64) : Int32 := if (XT.ushrL q0 (32 : Int32)).toInt32 = 0 then ((32 : Int32) + (own_nlz q0.toInt32)) else (own_nlz (XT.ushrL q0 (32 : Int32)).toInt32)
set_option maxRecDepth 65536 in
set_option maxHeartbeats 40000000 in
theorem rm_nlzl (l : Launch) (Z : State) (a0 : Array Value) (hw : ∀ d ∈ tables_1, d.before a0 Z = true) (q0 : Int64)  (h0 : Heap)   :
    OwCon l (⟨"java/lang/Long", "numberOfLeadingZeros", "(J)I"⟩ : MethodName) jdk_35_method_48_code 3 (some .int) ({ frames := 1, cells := 0, slots := 0, locals := 14 } : Room) Z #[(.long q0)] h0 (OwP (some (.int (own_nlzl q0))) h0) := by
  refine OwCon.of pn_9 (Ls := #[.val (.long q0), .second, .unset]) (fun m => by first | (simp [entryFrame, mkF, argsToLocals, Value.category]; done) | rfl) ?_
  intro p e s m below meth c s₁ C X0 e0
  refine ow_lloadN C X0 d9_0 rfl (pc' := 1) rfl ?_
  refine ow_bipush (32 : Int32) C X0 d9_1 (by decide) (pc' := 3) rfl ?_
  refine ow_lushr C X0 d9_3 (pc' := 4) rfl ?_
  refine ow_l2i C X0 d9_4 (pc' := 5) rfl ?_
  refine ow_istoreN C X0 d9_5 (Ls' := #[.val (.long q0), .second, .val (.int (XT.ushrL q0 (32 : Int32)).toInt32)]) rfl (pc' := 6) rfl ?_
  refine ow_iloadN C X0 d9_6 rfl (pc' := 7) rfl ?_
  refine ow_if_ne C X0 d9_7 (pcT := 21) (pc' := 10) (by decide) (by decide) rfl (fun b7 => ?_) (fun b7 => ?_)
  · refine ow_iloadN C X0 d9_21 rfl (pc' := 22) rfl ?_
    refine ow_callSP C X0 e0 (hw _ (List.mem_of_getElem? (i := 39) rfl)) (hw _ (List.mem_of_getElem? (i := 40) rfl)) (hw _ (List.mem_of_getElem? (i := 41) rfl)) (hw _ (List.mem_of_getElem? (i := 42) rfl)) (by decide) (rm_nlz l Z a0 hw (XT.ushrL q0 (32 : Int32)).toInt32 h0) ⟨rfl, rfl⟩ pd_0 rfl (argsL := [(.int (XT.ushrL q0 (32 : Int32)).toInt32)]) (rest := []) rfl rfl d9_22 (Nat.le_of_ble_eq_true rfl) (Nat.le_of_ble_eq_true rfl) (Nat.le_of_ble_eq_true rfl) (Nat.le_of_ble_eq_true rfl) (pc' := 25) rfl (fun T6 X6 e6 => ?_)
    exact ow_retI C X6 d9_25 (Nat.le_of_ble_eq_true rfl) (Nat.le_of_ble_eq_true rfl) ⟨(show some (Value.int (own_nlz (XT.ushrL q0 (32 : Int32)).toInt32)) = some (Value.int (own_nlzl q0)) from congrArg (fun z => some (Value.int z)) (by unfold own_nlzl; rw [if_neg b7])), rfl, e6⟩
  · refine ow_bipush (32 : Int32) C X0 d9_10 (by decide) (pc' := 12) rfl ?_
    refine ow_lloadN C X0 d9_12 rfl (pc' := 13) rfl ?_
    refine ow_l2i C X0 d9_13 (pc' := 14) rfl ?_
    refine ow_callSP C X0 e0 (hw _ (List.mem_of_getElem? (i := 39) rfl)) (hw _ (List.mem_of_getElem? (i := 40) rfl)) (hw _ (List.mem_of_getElem? (i := 41) rfl)) (hw _ (List.mem_of_getElem? (i := 42) rfl)) (by decide) (rm_nlz l Z a0 hw q0.toInt32 h0) ⟨rfl, rfl⟩ pd_0 rfl (argsL := [(.int q0.toInt32)]) (rest := [(.int (32 : Int32))]) rfl rfl d9_14 (Nat.le_of_ble_eq_true rfl) (Nat.le_of_ble_eq_true rfl) (Nat.le_of_ble_eq_true rfl) (Nat.le_of_ble_eq_true rfl) (pc' := 17) rfl (fun T5 X5 e5 => ?_)
    refine ow_iadd C X5 d9_17 (pc' := 18) rfl ?_
    refine ow_goto C X5 d9_18 (pcT := 25) (by decide) (by decide) ?_
    exact ow_retI C X5 d9_25 (Nat.le_of_ble_eq_true rfl) (Nat.le_of_ble_eq_true rfl) ⟨(show some (Value.int ((32 : Int32) + (own_nlz q0.toInt32))) = some (Value.int (own_nlzl q0)) from congrArg (fun z => some (Value.int z)) (by unfold own_nlzl; rw [if_pos b7])), rfl, e5⟩
theorem d8_0 : decode prog_16_method_5_code 0 = .ok (.lload_n 0, 1) := by decide +kernel
theorem d8_1 : decode prog_16_method_5_code 1 = .ok (.ldc2_w 40, 3) := by decide +kernel
theorem d8_4 : decode prog_16_method_5_code 4 = .ok (.lcmp, 1) := by decide +kernel
theorem d8_5 : decode prog_16_method_5_code 5 = .ok (.ifCond .ge 9, 3) := by decide +kernel
theorem d8_8 : decode prog_16_method_5_code 8 = .ok (.lload_n 0, 1) := by decide +kernel
theorem d8_9 : decode prog_16_method_5_code 9 = .ok (.l2i, 1) := by decide +kernel
theorem d8_10 : decode prog_16_method_5_code 10 = .ok (.istore_n 2, 1) := by decide +kernel
theorem d8_11 : decode prog_16_method_5_code 11 = .ok (.goto 28, 3) := by decide +kernel
theorem d8_14 : decode prog_16_method_5_code 14 = .ok (.bipush 63, 2) := by decide +kernel
theorem d8_16 : decode prog_16_method_5_code 16 = .ok (.lload_n 0, 1) := by decide +kernel
theorem d8_17 : decode prog_16_method_5_code 17 = .ok (.invokestatic 42, 3) := by decide +kernel
theorem d8_20 : decode prog_16_method_5_code 20 = .ok (.isub, 1) := by decide +kernel
theorem d8_21 : decode prog_16_method_5_code 21 = .ok (.istore_n 3, 1) := by decide +kernel
theorem d8_22 : decode prog_16_method_5_code 22 = .ok (.iload_n 3, 1) := by decide +kernel
theorem d8_23 : decode prog_16_method_5_code 23 = .ok (.bipush 10, 2) := by decide +kernel
theorem d8_25 : decode prog_16_method_5_code 25 = .ok (.isub, 1) := by decide +kernel
theorem d8_26 : decode prog_16_method_5_code 26 = .ok (.sipush 1024, 3) := by decide +kernel
theorem d8_29 : decode prog_16_method_5_code 29 = .ok (.imul, 1) := by decide +kernel
theorem d8_30 : decode prog_16_method_5_code 30 = .ok (.lload_n 0, 1) := by decide +kernel
theorem d8_31 : decode prog_16_method_5_code 31 = .ok (.iload_n 3, 1) := by decide +kernel
theorem d8_32 : decode prog_16_method_5_code 32 = .ok (.bipush 10, 2) := by decide +kernel
theorem d8_34 : decode prog_16_method_5_code 34 = .ok (.isub, 1) := by decide +kernel
theorem d8_35 : decode prog_16_method_5_code 35 = .ok (.lushr, 1) := by decide +kernel
theorem d8_36 : decode prog_16_method_5_code 36 = .ok (.l2i, 1) := by decide +kernel
theorem d8_37 : decode prog_16_method_5_code 37 = .ok (.iadd, 1) := by decide +kernel
theorem d8_38 : decode prog_16_method_5_code 38 = .ok (.istore_n 2, 1) := by decide +kernel
theorem d8_39 : decode prog_16_method_5_code 39 = .ok (.iload_n 2, 1) := by decide +kernel
theorem d8_40 : decode prog_16_method_5_code 40 = .ok (.ireturn, 1) := by decide +kernel
theorem pn_8 : plainFor (⟨"com/example/topsail/topsail/cli/LatencyHistogram", "bucketOf", "(J)I"⟩ : MethodName) = true := by first | exact plainFor_of_name (by first | (simp [plainName, overriddenIn]; done) | decide +kernel) | decide +kernel
def own_bkt_j39_l2 (q0 : Int64) : Int32 := if q0 < (2048 : Int64) then q0.toInt32 else (((((63 : Int32) - (own_nlzl q0)) - (10 : Int32)) * (1024 : Int32)) + (XT.ushrL q0 (((63 : Int32) - (own_nlzl q0)) - (10 : Int32))).toInt32)
def own_bkt (q0 : Int64) : Int32 := (own_bkt_j39_l2 q0)
set_option maxRecDepth 65536 in
set_option maxHeartbeats 40000000 in
theorem rm_bkt (l : Launch) (Z : State) (a0 : Array Value) (hw : ∀ d ∈ tables_1, d.before a0 Z = true) (q0 : Int64)  (h0 : Heap)   :
    OwCon l (⟨"com/example/topsail/topsail/cli/LatencyHistogram", "bucketOf", "(J)I"⟩ : MethodName) prog_16_method_5_code 4 (some .int) ({ frames := 2, cells := 0, slots := 0, locals := 29 } : Room) Z #[(.long q0)] h0 (OwP (some (.int (own_bkt q0))) h0) := by
  refine OwCon.of pn_8 (Ls := #[.val (.long q0), .second, .unset, .unset]) (fun m => by first | (simp [entryFrame, mkF, argsToLocals, Value.category]; done) | rfl) ?_
  intro p e s m below meth c s₁ C X0 e0
  refine ow_lloadN C X0 d8_0 rfl (pc' := 1) rfl ?_
  refine ow_ldc2 C X0 (hw _ (List.mem_of_getElem? (i := 34) rfl)) d8_1 (pc' := 4) rfl ?_
  refine ow_lcmp C X0 d8_4 (pc' := 5) rfl ?_
  refine ow_joinL X0 e0 (pc' := 39) (r' := []) (P := fun Ls => ∃ x8_3 : Slot, One x8_3 ∧ Ls = #[.val (.long q0), .second, .val (.int (own_bkt_j39_l2 q0)), x8_3]) ?_ (fun Ls8 T8 P8 X8 e8 => ?_)
  · intro D8 jk8
    refine ow_lif_ge C X0 d8_5 (pcT := 14) (pc' := 8) (by decide) (by decide) rfl (fun b5 => ?_) (fun b5 => ?_)
    · refine ow_bipush (63 : Int32) C X0 d8_14 (by decide) (pc' := 16) rfl ?_
      refine ow_lloadN C X0 d8_16 rfl (pc' := 17) rfl ?_
      refine ow_callSP C X0 e0 (hw _ (List.mem_of_getElem? (i := 35) rfl)) (hw _ (List.mem_of_getElem? (i := 36) rfl)) (hw _ (List.mem_of_getElem? (i := 37) rfl)) (hw _ (List.mem_of_getElem? (i := 38) rfl)) (by decide) (rm_nlzl l Z a0 hw q0 h0) ⟨rfl, rfl⟩ pd_1 rfl (argsL := [(.long q0)]) (rest := [(.int (63 : Int32))]) rfl rfl d8_17 (Nat.le_of_ble_eq_true rfl) (Nat.le_of_ble_eq_true rfl) (Nat.le_of_ble_eq_true rfl) (Nat.le_of_ble_eq_true rfl) (pc' := 20) rfl (fun T7 X7 e7 => ?_)
      refine ow_isub C X7 d8_20 (pc' := 21) rfl ?_
      refine ow_istoreN C X7 d8_21 (Ls' := #[.val (.long q0), .second, .unset, .val (.int ((63 : Int32) - (own_nlzl q0)))]) rfl (pc' := 22) rfl ?_
      refine ow_iloadN C X7 d8_22 rfl (pc' := 23) rfl ?_
      refine ow_bipush (10 : Int32) C X7 d8_23 (by decide) (pc' := 25) rfl ?_
      refine ow_isub C X7 d8_25 (pc' := 26) rfl ?_
      refine ow_sipush (1024 : Int32) C X7 d8_26 (by decide) (pc' := 29) rfl ?_
      refine ow_imul C X7 d8_29 (pc' := 30) rfl ?_
      refine ow_lloadN C X7 d8_30 rfl (pc' := 31) rfl ?_
      refine ow_iloadN C X7 d8_31 rfl (pc' := 32) rfl ?_
      refine ow_bipush (10 : Int32) C X7 d8_32 (by decide) (pc' := 34) rfl ?_
      refine ow_isub C X7 d8_34 (pc' := 35) rfl ?_
      refine ow_lushr C X7 d8_35 (pc' := 36) rfl ?_
      refine ow_l2i C X7 d8_36 (pc' := 37) rfl ?_
      refine ow_iadd C X7 d8_37 (pc' := 38) rfl ?_
      refine ow_istoreN C X7 d8_38 (Ls' := #[.val (.long q0), .second, .val (.int (((((63 : Int32) - (own_nlzl q0)) - (10 : Int32)) * (1024 : Int32)) + (XT.ushrL q0 (((63 : Int32) - (own_nlzl q0)) - (10 : Int32))).toInt32)), .val (.int ((63 : Int32) - (own_nlzl q0)))]) rfl (pc' := 39) rfl ?_
      have jq := jk8 #[.val (.long q0), .second, .val (.int (own_bkt_j39_l2 q0)), .val (.int ((63 : Int32) - (own_nlzl q0)))] T7 ⟨_, (One.val rfl), rfl⟩ X7 e7
      rw [show (own_bkt_j39_l2 q0) = (((((63 : Int32) - (own_nlzl q0)) - (10 : Int32)) * (1024 : Int32)) + (XT.ushrL q0 (((63 : Int32) - (own_nlzl q0)) - (10 : Int32))).toInt32) from by unfold own_bkt_j39_l2; (try rw [if_neg b5]); (try rfl)] at jq
      exact jq
    · refine ow_lloadN C X0 d8_8 rfl (pc' := 9) rfl ?_
      refine ow_l2i C X0 d8_9 (pc' := 10) rfl ?_
      refine ow_istoreN C X0 d8_10 (Ls' := #[.val (.long q0), .second, .val (.int q0.toInt32), .unset]) rfl (pc' := 11) rfl ?_
      refine ow_goto C X0 d8_11 (pcT := 39) (by decide) (by decide) ?_
      have jq := jk8 #[.val (.long q0), .second, .val (.int (own_bkt_j39_l2 q0)), .unset] s₁ ⟨_, One.u, rfl⟩ X0 e0
      rw [show (own_bkt_j39_l2 q0) = q0.toInt32 from by unfold own_bkt_j39_l2; (try rw [if_pos b5]); (try rfl)] at jq
      exact jq
  obtain ⟨x8_3, o8_3, rfl⟩ := P8
  refine ow_iloadN C X8 d8_39 rfl (pc' := 40) rfl ?_
  exact ow_retI C X8 d8_40 (Nat.le_of_ble_eq_true rfl) (Nat.le_of_ble_eq_true rfl) ⟨(show some (Value.int (own_bkt_j39_l2 q0)) = some (Value.int (own_bkt q0)) from congrArg (fun z => some (Value.int z)) rfl), rfl, e8⟩
theorem d13_0 : decode prog_16_method_6_code 0 = .ok (.iload_n 0, 1) := by decide +kernel
theorem d13_1 : decode prog_16_method_6_code 1 = .ok (.sipush 2048, 3) := by decide +kernel
theorem d13_4 : decode prog_16_method_6_code 4 = .ok (.if_icmp .ge 9, 3) := by decide +kernel
theorem d13_7 : decode prog_16_method_6_code 7 = .ok (.iload_n 0, 1) := by decide +kernel
theorem d13_8 : decode prog_16_method_6_code 8 = .ok (.i2l, 1) := by decide +kernel
theorem d13_9 : decode prog_16_method_6_code 9 = .ok (.lstore_n 1, 1) := by decide +kernel
theorem d13_10 : decode prog_16_method_6_code 10 = .ok (.goto 30, 3) := by decide +kernel
theorem d13_13 : decode prog_16_method_6_code 13 = .ok (.iload_n 0, 1) := by decide +kernel
theorem d13_14 : decode prog_16_method_6_code 14 = .ok (.sipush 1024, 3) := by decide +kernel
theorem d13_17 : decode prog_16_method_6_code 17 = .ok (.idiv, 1) := by decide +kernel
theorem d13_18 : decode prog_16_method_6_code 18 = .ok (.bipush 10, 2) := by decide +kernel
theorem d13_20 : decode prog_16_method_6_code 20 = .ok (.iadd, 1) := by decide +kernel
theorem d13_21 : decode prog_16_method_6_code 21 = .ok (.iconst 1, 1) := by decide +kernel
theorem d13_22 : decode prog_16_method_6_code 22 = .ok (.isub, 1) := by decide +kernel
theorem d13_23 : decode prog_16_method_6_code 23 = .ok (.istore_n 3, 1) := by decide +kernel
theorem d13_24 : decode prog_16_method_6_code 24 = .ok (.iload_n 0, 1) := by decide +kernel
theorem d13_25 : decode prog_16_method_6_code 25 = .ok (.sipush 1024, 3) := by decide +kernel
theorem d13_28 : decode prog_16_method_6_code 28 = .ok (.irem, 1) := by decide +kernel
theorem d13_29 : decode prog_16_method_6_code 29 = .ok (.sipush 1024, 3) := by decide +kernel
theorem d13_32 : decode prog_16_method_6_code 32 = .ok (.iadd, 1) := by decide +kernel
theorem d13_33 : decode prog_16_method_6_code 33 = .ok (.i2l, 1) := by decide +kernel
theorem d13_34 : decode prog_16_method_6_code 34 = .ok (.iload_n 3, 1) := by decide +kernel
theorem d13_35 : decode prog_16_method_6_code 35 = .ok (.bipush 10, 2) := by decide +kernel
theorem d13_37 : decode prog_16_method_6_code 37 = .ok (.isub, 1) := by decide +kernel
theorem d13_38 : decode prog_16_method_6_code 38 = .ok (.lshl, 1) := by decide +kernel
theorem d13_39 : decode prog_16_method_6_code 39 = .ok (.lstore_n 1, 1) := by decide +kernel
theorem d13_40 : decode prog_16_method_6_code 40 = .ok (.lload_n 1, 1) := by decide +kernel
theorem d13_41 : decode prog_16_method_6_code 41 = .ok (.lreturn, 1) := by decide +kernel
theorem pn_13 : plainFor (⟨"com/example/topsail/topsail/cli/LatencyHistogram", "lowestOf", "(I)J"⟩ : MethodName) = true := by first | exact plainFor_of_name (by first | (simp [plainName, overriddenIn]; done) | decide +kernel) | decide +kernel
theorem pd_2 : parseMethodDescriptor "(I)J" = some ⟨[.int], (some .long)⟩ := by decide +kernel
def own_low_j40_l1 (q0 : Int32) : Int64 := if q0 < (2048 : Int32) then q0.toInt64 else (((q0 - (q0 / (1024 : Int32)) * (1024 : Int32)) + (1024 : Int32)).toInt64 <<< (((((q0 / (1024 : Int32)) + (10 : Int32)) - (1 : Int32)) - (10 : Int32)).toInt64 &&& 63))
def own_low (q0 : Int32) : Int64 := (own_low_j40_l1 q0)
set_option maxRecDepth 65536 in
set_option maxHeartbeats 40000000 in
theorem rm_low (l : Launch) (Z : State) (a0 : Array Value) (hw : ∀ d ∈ tables_1, d.before a0 Z = true) (q0 : Int32)  (h0 : Heap)   :
    OwCon l (⟨"com/example/topsail/topsail/cli/LatencyHistogram", "lowestOf", "(I)J"⟩ : MethodName) prog_16_method_6_code 4 (some .long) ({ frames := 0, cells := 0, slots := 0, locals := 0 } : Room) Z #[(.int q0)] h0 (OwP (some (.long (own_low q0))) h0) := by
  refine OwCon.of pn_13 (Ls := #[.val (.int q0), .unset, .unset, .unset]) (fun m => by first | (simp [entryFrame, mkF, argsToLocals, Value.category]; done) | rfl) ?_
  intro p e s m below meth c s₁ C X0 e0
  refine ow_iloadN C X0 d13_0 rfl (pc' := 1) rfl ?_
  refine ow_sipush (2048 : Int32) C X0 d13_1 (by decide) (pc' := 4) rfl ?_
  refine ow_joinL X0 e0 (pc' := 40) (r' := []) (P := fun Ls => ∃ x9_3 : Slot, One x9_3 ∧ Ls = #[.val (.int q0), .val (.long (own_low_j40_l1 q0)), .second, x9_3]) ?_ (fun Ls9 T9 P9 X9 e9 => ?_)
  · intro D9 jk9
    refine ow_icmp_ge C X0 d13_4 (pcT := 13) (pc' := 7) (by decide) (by decide) rfl (fun b4 => ?_) (fun b4 => ?_)
    · refine ow_iloadN C X0 d13_13 rfl (pc' := 14) rfl ?_
      refine ow_sipush (1024 : Int32) C X0 d13_14 (by decide) (pc' := 17) rfl ?_
      refine ow_idiv C X0 d13_17 (by decide) (pc' := 18) rfl ?_
      refine ow_bipush (10 : Int32) C X0 d13_18 (by decide) (pc' := 20) rfl ?_
      refine ow_iadd C X0 d13_20 (pc' := 21) rfl ?_
      refine ow_iconst (1 : Int32) C X0 d13_21 (by decide) (pc' := 22) rfl ?_
      refine ow_isub C X0 d13_22 (pc' := 23) rfl ?_
      refine ow_istoreN C X0 d13_23 (Ls' := #[.val (.int q0), .unset, .unset, .val (.int (((q0 / (1024 : Int32)) + (10 : Int32)) - (1 : Int32)))]) rfl (pc' := 24) rfl ?_
      refine ow_iloadN C X0 d13_24 rfl (pc' := 25) rfl ?_
      refine ow_sipush (1024 : Int32) C X0 d13_25 (by decide) (pc' := 28) rfl ?_
      refine ow_irem C X0 d13_28 (by decide) (pc' := 29) rfl ?_
      refine ow_sipush (1024 : Int32) C X0 d13_29 (by decide) (pc' := 32) rfl ?_
      refine ow_iadd C X0 d13_32 (pc' := 33) rfl ?_
      refine ow_i2l C X0 d13_33 (pc' := 34) rfl ?_
      refine ow_iloadN C X0 d13_34 rfl (pc' := 35) rfl ?_
      refine ow_bipush (10 : Int32) C X0 d13_35 (by decide) (pc' := 37) rfl ?_
      refine ow_isub C X0 d13_37 (pc' := 38) rfl ?_
      refine ow_lshl C X0 d13_38 (pc' := 39) rfl ?_
      refine ow_lstoreN C X0 d13_39 (Ls' := #[.val (.int q0), .val (.long (((q0 - (q0 / (1024 : Int32)) * (1024 : Int32)) + (1024 : Int32)).toInt64 <<< (((((q0 / (1024 : Int32)) + (10 : Int32)) - (1 : Int32)) - (10 : Int32)).toInt64 &&& 63))), .second, .val (.int (((q0 / (1024 : Int32)) + (10 : Int32)) - (1 : Int32)))]) rfl (pc' := 40) rfl ?_
      have jq := jk9 #[.val (.int q0), .val (.long (own_low_j40_l1 q0)), .second, .val (.int (((q0 / (1024 : Int32)) + (10 : Int32)) - (1 : Int32)))] s₁ ⟨_, (One.val rfl), rfl⟩ X0 e0
      rw [show (own_low_j40_l1 q0) = (((q0 - (q0 / (1024 : Int32)) * (1024 : Int32)) + (1024 : Int32)).toInt64 <<< (((((q0 / (1024 : Int32)) + (10 : Int32)) - (1 : Int32)) - (10 : Int32)).toInt64 &&& 63)) from by unfold own_low_j40_l1; (try rw [if_neg b4]); (try rfl)] at jq
      exact jq
    · refine ow_iloadN C X0 d13_7 rfl (pc' := 8) rfl ?_
      refine ow_i2l C X0 d13_8 (pc' := 9) rfl ?_
      refine ow_lstoreN C X0 d13_9 (Ls' := #[.val (.int q0), .val (.long q0.toInt64), .second, .unset]) rfl (pc' := 10) rfl ?_
      refine ow_goto C X0 d13_10 (pcT := 40) (by decide) (by decide) ?_
      have jq := jk9 #[.val (.int q0), .val (.long (own_low_j40_l1 q0)), .second, .unset] s₁ ⟨_, One.u, rfl⟩ X0 e0
      rw [show (own_low_j40_l1 q0) = q0.toInt64 from by unfold own_low_j40_l1; (try rw [if_pos b4]); (try rfl)] at jq
      exact jq
  obtain ⟨x9_3, o9_3, rfl⟩ := P9
  refine ow_lloadN C X9 d13_40 rfl (pc' := 41) rfl ?_
  exact ow_retJ C X9 d13_41 (Nat.le_of_ble_eq_true rfl) (Nat.le_of_ble_eq_true rfl) ⟨(show some (Value.long (own_low_j40_l1 q0)) = some (Value.long (own_low q0)) from congrArg (fun z => some (Value.long z)) rfl), rfl, e9⟩
theorem d4_0 : decode jdk_29_method_70_code 0 = .ok (.lload_n 0, 1) := by decide +kernel
theorem d4_1 : decode jdk_29_method_70_code 1 = .ok (.lload_n 2, 1) := by decide +kernel
theorem d4_2 : decode jdk_29_method_70_code 2 = .ok (.lcmp, 1) := by decide +kernel
theorem d4_3 : decode jdk_29_method_70_code 3 = .ok (.ifCond .gt 7, 3) := by decide +kernel
theorem d4_6 : decode jdk_29_method_70_code 6 = .ok (.lload_n 0, 1) := by decide +kernel
theorem d4_7 : decode jdk_29_method_70_code 7 = .ok (.goto 4, 3) := by decide +kernel
theorem d4_10 : decode jdk_29_method_70_code 10 = .ok (.lload_n 2, 1) := by decide +kernel
theorem d4_11 : decode jdk_29_method_70_code 11 = .ok (.lreturn, 1) := by decide +kernel
theorem pn_4 : plainFor (⟨"java/lang/Math", "min", "(JJ)J"⟩ : MethodName) = true := by first | exact plainFor_of_name (by first | (simp [plainName, overriddenIn]; done) | decide +kernel) | decide +kernel
theorem pd_3 : parseMethodDescriptor "(JJ)J" = some ⟨[.long, .long], (some .long)⟩ := by decide +kernel
def own_min (q0 : Int64) (q1 : Int64) : Int64 := if q1 < q0 then q1 else q0
set_option maxRecDepth 65536 in
set_option maxHeartbeats 40000000 in
theorem rm_min (l : Launch) (Z : State) (a0 : Array Value) (hw : ∀ d ∈ tables_1, d.before a0 Z = true) (q0 : Int64) (q1 : Int64)  (h0 : Heap)   :
    OwCon l (⟨"java/lang/Math", "min", "(JJ)J"⟩ : MethodName) jdk_29_method_70_code 4 (some .long) ({ frames := 0, cells := 0, slots := 0, locals := 0 } : Room) Z #[(.long q0), (.long q1)] h0 (OwP (some (.long (own_min q0 q1))) h0) := by
  refine OwCon.of pn_4 (Ls := #[.val (.long q0), .second, .val (.long q1), .second]) (fun m => by first | (simp [entryFrame, mkF, argsToLocals, Value.category]; done) | rfl) ?_
  intro p e s m below meth c s₁ C X0 e0
  refine ow_lloadN C X0 d4_0 rfl (pc' := 1) rfl ?_
  refine ow_lloadN C X0 d4_1 rfl (pc' := 2) rfl ?_
  refine ow_lcmp C X0 d4_2 (pc' := 3) rfl ?_
  refine ow_lif_gt C X0 d4_3 (pcT := 10) (pc' := 6) (by decide) (by decide) rfl (fun b3 => ?_) (fun b3 => ?_)
  · refine ow_lloadN C X0 d4_10 rfl (pc' := 11) rfl ?_
    exact ow_retJ C X0 d4_11 (Nat.le_of_ble_eq_true rfl) (Nat.le_of_ble_eq_true rfl) ⟨(show some (Value.long q1) = some (Value.long (own_min q0 q1)) from congrArg (fun z => some (Value.long z)) (by unfold own_min; rw [if_pos b3])), rfl, e0⟩
  · refine ow_lloadN C X0 d4_6 rfl (pc' := 7) rfl ?_
    refine ow_goto C X0 d4_7 (pcT := 11) (by decide) (by decide) ?_
    exact ow_retJ C X0 d4_11 (Nat.le_of_ble_eq_true rfl) (Nat.le_of_ble_eq_true rfl) ⟨(show some (Value.long q0) = some (Value.long (own_min q0 q1)) from congrArg (fun z => some (Value.long z)) (by unfold own_min; rw [if_neg b3])), rfl, e0⟩
theorem d5_0 : decode jdk_29_method_66_code 0 = .ok (.lload_n 0, 1) := by decide +kernel
theorem d5_1 : decode jdk_29_method_66_code 1 = .ok (.lload_n 2, 1) := by decide +kernel
theorem d5_2 : decode jdk_29_method_66_code 2 = .ok (.lcmp, 1) := by decide +kernel
theorem d5_3 : decode jdk_29_method_66_code 3 = .ok (.ifCond .lt 7, 3) := by decide +kernel
theorem d5_6 : decode jdk_29_method_66_code 6 = .ok (.lload_n 0, 1) := by decide +kernel
theorem d5_7 : decode jdk_29_method_66_code 7 = .ok (.goto 4, 3) := by decide +kernel
theorem d5_10 : decode jdk_29_method_66_code 10 = .ok (.lload_n 2, 1) := by decide +kernel
theorem d5_11 : decode jdk_29_method_66_code 11 = .ok (.lreturn, 1) := by decide +kernel
theorem pn_5 : plainFor (⟨"java/lang/Math", "max", "(JJ)J"⟩ : MethodName) = true := by first | exact plainFor_of_name (by first | (simp [plainName, overriddenIn]; done) | decide +kernel) | decide +kernel
def own_max (q0 : Int64) (q1 : Int64) : Int64 := if q0 < q1 then q1 else q0
set_option maxRecDepth 65536 in
set_option maxHeartbeats 40000000 in
theorem rm_max (l : Launch) (Z : State) (a0 : Array Value) (hw : ∀ d ∈ tables_1, d.before a0 Z = true) (q0 : Int64) (q1 : Int64)  (h0 : Heap)   :
    OwCon l (⟨"java/lang/Math", "max", "(JJ)J"⟩ : MethodName) jdk_29_method_66_code 4 (some .long) ({ frames := 0, cells := 0, slots := 0, locals := 0 } : Room) Z #[(.long q0), (.long q1)] h0 (OwP (some (.long (own_max q0 q1))) h0) := by
  refine OwCon.of pn_5 (Ls := #[.val (.long q0), .second, .val (.long q1), .second]) (fun m => by first | (simp [entryFrame, mkF, argsToLocals, Value.category]; done) | rfl) ?_
  intro p e s m below meth c s₁ C X0 e0
  refine ow_lloadN C X0 d5_0 rfl (pc' := 1) rfl ?_
  refine ow_lloadN C X0 d5_1 rfl (pc' := 2) rfl ?_
  refine ow_lcmp C X0 d5_2 (pc' := 3) rfl ?_
  refine ow_lif_lt C X0 d5_3 (pcT := 10) (pc' := 6) (by decide) (by decide) rfl (fun b3 => ?_) (fun b3 => ?_)
  · refine ow_lloadN C X0 d5_10 rfl (pc' := 11) rfl ?_
    exact ow_retJ C X0 d5_11 (Nat.le_of_ble_eq_true rfl) (Nat.le_of_ble_eq_true rfl) ⟨(show some (Value.long q1) = some (Value.long (own_max q0 q1)) from congrArg (fun z => some (Value.long z)) (by unfold own_max; rw [if_pos b3])), rfl, e0⟩
  · refine ow_lloadN C X0 d5_6 rfl (pc' := 7) rfl ?_
    refine ow_goto C X0 d5_7 (pcT := 11) (by decide) (by decide) ?_
    exact ow_retJ C X0 d5_11 (Nat.le_of_ble_eq_true rfl) (Nat.le_of_ble_eq_true rfl) ⟨(show some (Value.long q0) = some (Value.long (own_max q0 q1)) from congrArg (fun z => some (Value.long z)) (by unfold own_max; rw [if_neg b3])), rfl, e0⟩
theorem d6_0 : decode prog_16_method_1_code 0 = .ok (.aload_n 0, 1) := by decide +kernel
theorem d6_1 : decode prog_16_method_1_code 1 = .ok (.invokespecial 3, 3) := by decide +kernel
theorem d6_4 : decode prog_16_method_1_code 4 = .ok (.aload_n 0, 1) := by decide +kernel
theorem d6_5 : decode prog_16_method_1_code 5 = .ok (.ldc2_w 11, 3) := by decide +kernel
theorem d6_8 : decode prog_16_method_1_code 8 = .ok (.invokestatic 13, 3) := by decide +kernel
theorem d6_11 : decode prog_16_method_1_code 11 = .ok (.iconst 1, 1) := by decide +kernel
theorem d6_12 : decode prog_16_method_1_code 12 = .ok (.iadd, 1) := by decide +kernel
theorem d6_13 : decode prog_16_method_1_code 13 = .ok (.newarray .long, 2) := by decide +kernel
theorem d6_15 : decode prog_16_method_1_code 15 = .ok (.putfield 17, 3) := by decide +kernel
theorem d6_18 : decode prog_16_method_1_code 18 = .ok (.return_, 1) := by decide +kernel
theorem pn_6 : plainFor (⟨"com/example/topsail/topsail/cli/LatencyHistogram", "<init>", "()V"⟩ : MethodName) = true := by first | exact plainFor_of_name (by first | (simp [plainName, overriddenIn]; done) | decide +kernel) | decide +kernel
theorem pd_4 : parseMethodDescriptor "()V" = some ⟨[], none⟩ := by decide +kernel
set_option maxRecDepth 65536 in
set_option maxHeartbeats 40000000 in
theorem rm_init (l : Launch) (Z : State) (a0 : Array Value) (hw : ∀ d ∈ tables_1, d.before a0 Z = true) (o0 : Addr) (u1 : Value) (h0 : Heap) (n0 : Nat) (Z0 : n0 ≤ h0.size) (E_o0 : Exa Z h0 o0 "com/example/topsail/topsail/cli/LatencyHistogram") (g_o0 : n0 ≤ o0) (F1 : Fld Z h0 o0 "com/example/topsail/topsail/cli/LatencyHistogram" "counts" "[J" u1) (F2 : Fld Z h0 o0 "com/example/topsail/topsail/cli/LatencyHistogram" "count" "J" (.long (0 : Int64))) :
    OwCon l (⟨"com/example/topsail/topsail/cli/LatencyHistogram", "<init>", "()V"⟩ : MethodName) prog_16_method_1_code 1 none ({ frames := 3, cells := 1, slots := 55296, locals := 45 } : Room) Z #[(.ref o0)] h0 (fun v h L => v = none ∧ Fr n0 L ∧ OwH Z h n0 o0 []) := by
  refine OwCon.of pn_6 (Ls := #[.val (.ref o0)]) (fun m => by first | (simp [entryFrame, mkF, argsToLocals, Value.category]; done) | rfl) ?_
  intro p e s m below meth c s₁ C X0 e0
  refine ow_aloadN C X0 d6_0 rfl rfl (pc' := 1) rfl ?_
  refine ow_initO C X0 e0 (hw _ (List.mem_of_getElem? (i := 27) rfl)) (hw _ (List.mem_of_getElem? (i := 28) rfl)) (hw _ (List.mem_of_getElem? (i := 29) rfl)) rfl d6_1 (Nat.le_of_ble_eq_true rfl) (Nat.le_of_ble_eq_true rfl) (pc' := 4) rfl (fun T10 X10 e10 => ?_)
  refine ow_aloadN C X10 d6_4 rfl rfl (pc' := 5) rfl ?_
  refine ow_ldc2 C X10 (hw _ (List.mem_of_getElem? (i := 30) rfl)) d6_5 (pc' := 8) rfl ?_
  refine ow_callSP C X10 e10 (hw _ (List.mem_of_getElem? (i := 31) rfl)) (hw _ (List.mem_of_getElem? (i := 32) rfl)) (hw _ (List.mem_of_getElem? (i := 23) rfl)) (hw _ (List.mem_of_getElem? (i := 33) rfl)) (by decide) (rm_bkt l Z a0 hw (9223372036854775807 : Int64) h0) ⟨rfl, rfl⟩ pd_1 rfl (argsL := [(.long (9223372036854775807 : Int64))]) (rest := [(.ref o0)]) rfl rfl d6_8 (Nat.le_of_ble_eq_true rfl) (Nat.le_of_ble_eq_true rfl) (Nat.le_of_ble_eq_true rfl) (Nat.le_of_ble_eq_true rfl) (pc' := 11) rfl (fun T11 X11 e11 => ?_)
  refine ow_iconst (1 : Int32) C X11 d6_11 (by decide) (pc' := 12) rfl ?_
  refine ow_iadd C X11 d6_12 (pc' := 13) rfl ?_
  refine ow_newarr C X11 e11 (hw _ (List.mem_of_getElem? (i := 44) rfl)) d6_13 (N := 55296) (cap := 55296) (by decide +kernel) (by decide +kernel) (Nat.le_of_ble_eq_true rfl) (Nat.le_of_ble_eq_true rfl) (Nat.le_of_ble_eq_true rfl) (Nat.le_of_ble_eq_true rfl) (pc' := 15) rfl (fun T12 h12 a12 g12 X12 e12 Ex12 A12 => ?_)
  have A12 : OwA Z h12 a12 .long 55296 (fun _ => .long 0) := A12
  have ne12_o0 : o0 ≠ a12 := Nat.ne_of_lt (Nat.lt_of_lt_of_le E_o0.lt (Nat.le_of_eq g12.symm))
  have E12_0 := E_o0.ext Ex12
  have F12_1 := F1.ext Ex12
  have F12_2 := F2.ext Ex12
  have Ge12 : n0 ≤ a12 := Nat.le_trans Z0 (Nat.le_of_eq g12.symm)
  have Z12 : n0 ≤ h12.size := Nat.le_trans Z0 Ex12.1
  refine ow_putF C X12 e12 (hw _ (List.mem_of_getElem? (i := 45) rfl)) F12_1 E12_0 (Or.inr ⟨(hw _ (List.mem_of_getElem? (i := 46) rfl)), rfl, rfl⟩) (hw _ (List.mem_of_getElem? (i := 22) rfl)) (ty := (.array .long)) (by decide) rfl rfl d6_15 (pc' := 18) rfl (fun T13 h13 X13 e13 W13 => ?_)
  have E13_0 := E12_0.wr W13
  have F13_1 := F12_1.same W13
  have F13_2 := F12_2.other W13 (Or.inr (slot_ne (Or.inl (hw _ (List.mem_of_getElem? (i := 53) rfl))) (Or.inr (hw _ (List.mem_of_getElem? (i := 46) rfl))) (by decide) (t := .long) (t' := (.array .long)) (by decide) (by decide)))
  have A13_a12 := A12.other W13 (Ne.symm ne12_o0)
  have N13 := Fr.snoc X13 (Fr.nil n0) g_o0
  have Z13 : n0 ≤ h13.size := by rw [W13.size]; exact Z12
  refine ow_retV C X13 d6_18 (Nat.le_of_ble_eq_true rfl) (Nat.le_of_ble_eq_true rfl) ?_
  rw [e13]
  exact ⟨rfl, N13, a12, E13_0, F13_1, F13_2, A13_a12.congr (fun j _ => rfl), g_o0, Ge12⟩
theorem d11_0 : decode prog_16_method_2_code 0 = .ok (.aload_n 0, 1) := by decide +kernel
theorem d11_1 : decode prog_16_method_2_code 1 = .ok (.getfield 17, 3) := by decide +kernel
theorem d11_4 : decode prog_16_method_2_code 4 = .ok (.lload_n 1, 1) := by decide +kernel
theorem d11_5 : decode prog_16_method_2_code 5 = .ok (.invokestatic 13, 3) := by decide +kernel
theorem d11_8 : decode prog_16_method_2_code 8 = .ok (.dup2, 1) := by decide +kernel
theorem d11_9 : decode prog_16_method_2_code 9 = .ok (.laload, 1) := by decide +kernel
theorem d11_10 : decode prog_16_method_2_code 10 = .ok (.lconst 1, 1) := by decide +kernel
theorem d11_11 : decode prog_16_method_2_code 11 = .ok (.ladd, 1) := by decide +kernel
theorem d11_12 : decode prog_16_method_2_code 12 = .ok (.lastore, 1) := by decide +kernel
theorem d11_13 : decode prog_16_method_2_code 13 = .ok (.aload_n 0, 1) := by decide +kernel
theorem d11_14 : decode prog_16_method_2_code 14 = .ok (.dup, 1) := by decide +kernel
theorem d11_15 : decode prog_16_method_2_code 15 = .ok (.getfield 21, 3) := by decide +kernel
theorem d11_18 : decode prog_16_method_2_code 18 = .ok (.lconst 1, 1) := by decide +kernel
theorem d11_19 : decode prog_16_method_2_code 19 = .ok (.ladd, 1) := by decide +kernel
theorem d11_20 : decode prog_16_method_2_code 20 = .ok (.putfield 21, 3) := by decide +kernel
theorem d11_23 : decode prog_16_method_2_code 23 = .ok (.return_, 1) := by decide +kernel
theorem pn_11 : plainFor (⟨"com/example/topsail/topsail/cli/LatencyHistogram", "record", "(J)V"⟩ : MethodName) = true := by first | exact plainFor_of_name (by first | (simp [plainName, overriddenIn]; done) | decide +kernel) | decide +kernel
theorem pd_5 : parseMethodDescriptor "(J)V" = some ⟨[.long], none⟩ := by decide +kernel
set_option maxRecDepth 65536 in
set_option maxHeartbeats 40000000 in
theorem rm_record (l : Launch) (Z : State) (a0 : Array Value) (hw : ∀ d ∈ tables_1, d.before a0 Z = true) (o0 : Addr) (q1 : Int64) (o2 : Addr) (bs : List Nat) (B : Nat) (hB0 : ¬ own_bkt q1 < 0) (hB : (own_bkt q1).toNatClampNeg = B) (hBl : B < 55296) (h0 : Heap) (n0 : Nat) (E_o0 : Exa Z h0 o0 "com/example/topsail/topsail/cli/LatencyHistogram") (F1 : Fld Z h0 o0 "com/example/topsail/topsail/cli/LatencyHistogram" "counts" "[J" (.ref o2)) (F2 : Fld Z h0 o0 "com/example/topsail/topsail/cli/LatencyHistogram" "count" "J" (.long (Int64.ofNat bs.length))) (A : OwA Z h0 o2 .long 55296 (fun j => .long (own_cn bs j))) (g_o0 : n0 ≤ o0) (g_o2 : n0 ≤ o2) :
    OwCon l (⟨"com/example/topsail/topsail/cli/LatencyHistogram", "record", "(J)V"⟩ : MethodName) prog_16_method_2_code 3 none ({ frames := 3, cells := 0, slots := 0, locals := 45 } : Room) Z #[(.ref o0), (.long q1)] h0 (fun v h L => v = none ∧ Fr n0 L ∧ OwH Z h n0 o0 (B :: bs)) := by
  have ne_o : o0 ≠ o2 := A.ne E_o0 (hw _ (List.mem_of_getElem? (i := 22) rfl))
  refine OwCon.of pn_11 (Ls := #[.val (.ref o0), .val (.long q1), .second]) (fun m => by first | (simp [entryFrame, mkF, argsToLocals, Value.category]; done) | rfl) ?_
  intro p e s m below meth c s₁ C X0 e0
  refine ow_aloadN C X0 d11_0 rfl rfl (pc' := 1) rfl ?_
  refine ow_getF C X0 e0 (hw _ (List.mem_of_getElem? (i := 45) rfl)) F1 d11_1 (pc' := 4) rfl (fun T14 X14 e14 => ?_)
  refine ow_lloadN C X14 d11_4 rfl (pc' := 5) rfl ?_
  refine ow_callSP C X14 e14 (hw _ (List.mem_of_getElem? (i := 31) rfl)) (hw _ (List.mem_of_getElem? (i := 32) rfl)) (hw _ (List.mem_of_getElem? (i := 23) rfl)) (hw _ (List.mem_of_getElem? (i := 33) rfl)) (by decide) (rm_bkt l Z a0 hw q1 h0) ⟨rfl, rfl⟩ pd_1 rfl (argsL := [(.long q1)]) (rest := [(.ref o2)]) rfl rfl d11_5 (Nat.le_of_ble_eq_true rfl) (Nat.le_of_ble_eq_true rfl) (Nat.le_of_ble_eq_true rfl) (Nat.le_of_ble_eq_true rfl) (pc' := 8) rfl (fun T15 X15 e15 => ?_)
  refine ow_dup2 C X15 d11_8 rfl rfl (pc' := 9) rfl ?_
  refine ow_laload C X15 e15 A hB0 hB hBl (v := (.long (own_cn bs B))) rfl d11_9 (pc' := 10) rfl ?_
  refine ow_lconst (1 : Int64) C X15 d11_10 (by decide) (pc' := 11) rfl ?_
  refine ow_ladd C X15 d11_11 (pc' := 12) rfl ?_
  refine ow_lastore C X15 e15 A hB0 hB hBl d11_12 (pc' := 13) rfl (fun T16 h16 X16 e16 W16 => ?_)
  have E16_0 := E_o0.wr W16
  have F16_1 := F1.other W16 (Or.inl ne_o)
  have F16_2 := F2.other W16 (Or.inl ne_o)
  have A16 : OwA Z h16 o2 .long 55296 (fun j => .long (if j = B then ((own_cn bs B) + (1 : Int64)) else (own_cn bs j))) := (A.set W16).congr (fun j _ => by (try dsimp only); split <;> rfl)
  have N16 := Fr.snoc X16 (Fr.nil n0) g_o2
  refine ow_aloadN C X16 d11_13 rfl rfl (pc' := 14) rfl ?_
  refine ow_dup C X16 d11_14 rfl (pc' := 15) rfl ?_
  refine ow_getF C X16 e16 (hw _ (List.mem_of_getElem? (i := 52) rfl)) F16_2 d11_15 (pc' := 18) rfl (fun T17 X17 e17 => ?_)
  refine ow_lconst (1 : Int64) C X17 d11_18 (by decide) (pc' := 19) rfl ?_
  refine ow_ladd C X17 d11_19 (pc' := 20) rfl ?_
  refine ow_putF C X17 e17 (hw _ (List.mem_of_getElem? (i := 52) rfl)) F16_2 E16_0 (Or.inl (hw _ (List.mem_of_getElem? (i := 53) rfl))) (hw _ (List.mem_of_getElem? (i := 22) rfl)) (ty := .long) (by decide) rfl rfl d11_20 (pc' := 23) rfl (fun T18 h18 X18 e18 W18 => ?_)
  have E18_0 := E16_0.wr W18
  have F18_1 := F16_1.other W18 (Or.inr (slot_ne (Or.inr (hw _ (List.mem_of_getElem? (i := 46) rfl))) (Or.inl (hw _ (List.mem_of_getElem? (i := 53) rfl))) (by decide) (t := (.array .long)) (t' := .long) (by decide) (by decide)))
  have F18_2 := F16_2.same W18
  have A18_o2 := A16.other W18 (Ne.symm ne_o)
  have N18 := Fr.snoc X18 N16 g_o0
  refine ow_retV C X18 d11_23 (Nat.le_of_ble_eq_true rfl) (Nat.le_of_ble_eq_true rfl) ?_
  rw [e18]
  exact ⟨rfl, N18, o2, E18_0, F18_1, own_len_cons bs B ▸ F18_2, A18_o2.congr (fun j _ => congrArg Value.long (own_cn_cons bs B j)), g_o0, g_o2⟩
theorem d12_0 : decode prog_16_method_4_code 0 = .ok (.aload_n 0, 1) := by decide +kernel
theorem d12_1 : decode prog_16_method_4_code 1 = .ok (.getfield 21, 3) := by decide +kernel
theorem d12_4 : decode prog_16_method_4_code 4 = .ok (.lconst 0, 1) := by decide +kernel
theorem d12_5 : decode prog_16_method_4_code 5 = .ok (.lcmp, 1) := by decide +kernel
theorem d12_6 : decode prog_16_method_4_code 6 = .ok (.ifCond .ne 13, 3) := by decide +kernel
theorem d12_9 : decode prog_16_method_4_code 9 = .ok (.new 25, 3) := by decide +kernel
theorem d12_12 : decode prog_16_method_4_code 12 = .ok (.dup, 1) := by decide +kernel
theorem d12_13 : decode prog_16_method_4_code 13 = .ok (.ldc 27, 2) := by decide +kernel
theorem d12_15 : decode prog_16_method_4_code 15 = .ok (.invokespecial 29, 3) := by decide +kernel
theorem d12_18 : decode prog_16_method_4_code 18 = .ok (.athrow, 1) := by decide +kernel
theorem d12_19 : decode prog_16_method_4_code 19 = .ok (.iload_n 1, 1) := by decide +kernel
theorem d12_20 : decode prog_16_method_4_code 20 = .ok (.i2l, 1) := by decide +kernel
theorem d12_21 : decode prog_16_method_4_code 21 = .ok (.aload_n 0, 1) := by decide +kernel
theorem d12_22 : decode prog_16_method_4_code 22 = .ok (.getfield 21, 3) := by decide +kernel
theorem d12_25 : decode prog_16_method_4_code 25 = .ok (.lmul, 1) := by decide +kernel
theorem d12_26 : decode prog_16_method_4_code 26 = .ok (.ldc2_w 32, 3) := by decide +kernel
theorem d12_29 : decode prog_16_method_4_code 29 = .ok (.ladd, 1) := by decide +kernel
theorem d12_30 : decode prog_16_method_4_code 30 = .ok (.ldc2_w 34, 3) := by decide +kernel
theorem d12_33 : decode prog_16_method_4_code 33 = .ok (.ldiv, 1) := by decide +kernel
theorem d12_34 : decode prog_16_method_4_code 34 = .ok (.lstore_n 2, 1) := by decide +kernel
theorem d12_35 : decode prog_16_method_4_code 35 = .ok (.iconst 0, 1) := by decide +kernel
theorem d12_36 : decode prog_16_method_4_code 36 = .ok (.istore 4, 2) := by decide +kernel
theorem d12_38 : decode prog_16_method_4_code 38 = .ok (.aload_n 0, 1) := by decide +kernel
theorem d12_39 : decode prog_16_method_4_code 39 = .ok (.getfield 17, 3) := by decide +kernel
theorem d12_42 : decode prog_16_method_4_code 42 = .ok (.iload 4, 2) := by decide +kernel
theorem d12_44 : decode prog_16_method_4_code 44 = .ok (.laload, 1) := by decide +kernel
theorem d12_45 : decode prog_16_method_4_code 45 = .ok (.lstore 5, 2) := by decide +kernel
theorem d12_47 : decode prog_16_method_4_code 47 = .ok (.lload 5, 2) := by decide +kernel
theorem d12_49 : decode prog_16_method_4_code 49 = .ok (.lload_n 2, 1) := by decide +kernel
theorem d12_50 : decode prog_16_method_4_code 50 = .ok (.lcmp, 1) := by decide +kernel
theorem d12_51 : decode prog_16_method_4_code 51 = .ok (.ifCond .ge 21, 3) := by decide +kernel
theorem d12_54 : decode prog_16_method_4_code 54 = .ok (.iinc 4 1, 3) := by decide +kernel
theorem d12_57 : decode prog_16_method_4_code 57 = .ok (.lload 5, 2) := by decide +kernel
theorem d12_59 : decode prog_16_method_4_code 59 = .ok (.aload_n 0, 1) := by decide +kernel
theorem d12_60 : decode prog_16_method_4_code 60 = .ok (.getfield 17, 3) := by decide +kernel
theorem d12_63 : decode prog_16_method_4_code 63 = .ok (.iload 4, 2) := by decide +kernel
theorem d12_65 : decode prog_16_method_4_code 65 = .ok (.laload, 1) := by decide +kernel
theorem d12_66 : decode prog_16_method_4_code 66 = .ok (.ladd, 1) := by decide +kernel
theorem d12_67 : decode prog_16_method_4_code 67 = .ok (.lstore 5, 2) := by decide +kernel
theorem d12_69 : decode prog_16_method_4_code 69 = .ok (.goto (-22), 3) := by decide +kernel
theorem d12_72 : decode prog_16_method_4_code 72 = .ok (.iload 4, 2) := by decide +kernel
theorem d12_74 : decode prog_16_method_4_code 74 = .ok (.invokestatic 36, 3) := by decide +kernel
theorem d12_77 : decode prog_16_method_4_code 77 = .ok (.lreturn, 1) := by decide +kernel
theorem pn_12 : plainFor (⟨"com/example/topsail/topsail/cli/LatencyHistogram", "percentile", "(I)J"⟩ : MethodName) = true := by first | exact plainFor_of_name (by first | (simp [plainName, overriddenIn]; done) | decide +kernel) | decide +kernel
set_option maxRecDepth 65536 in
set_option maxHeartbeats 40000000 in
theorem lp_pct {p : Program} {e : Env} {R : Room} {s : State} {m : MethodId} {args : Array Value} {below : List Frame} {meth : Method} {c : Code} {locs : List Loc} {cells slots : Nat} {D : State → Outcome → Prop} (l : Launch) (Z : State) (a0 : Array Value) (hw : ∀ d ∈ tables_1, d.before a0 Z = true) (o0 : Addr) (q1 : Int32) (o2 : Addr) (bs : List Nat) (rank : Int64) (K : Nat) (hK : K < 55296) (hlo : ∀ j, j < K → own_S bs j < rank) (hhi : ¬ own_S bs K < rank) (h0 : Heap) (F1 : Fld Z h0 o0 "com/example/topsail/topsail/cli/LatencyHistogram" "counts" "[J" (.ref o2)) (A : OwA Z h0 o2 .long 55296 (fun j => .long (own_cn bs j)))
    (C : OwC p Z s m meth c "com/example/topsail/topsail/cli/LatencyHistogram" "percentile" prog_16_method_4_code 7 (some .long)) : ∀ k i, i + k = K → ∀ T, Stand p l e R s m args below meth c T locs cells slots → T.heap = h0 → (∀ T', Stand p l e R s m args below meth c T' locs cells slots → T'.heap = h0 → OwF p e below D T' (mkF m 72 #[.val (.ref o0), .val (.int q1), .val (.long rank), .second, .val (.int (Int32.ofNat K)), .val (.long (own_S bs K)), .second] [])) → OwF p e below D T (mkF m 47 #[.val (.ref o0), .val (.int q1), .val (.long rank), .second, .val (.int (Int32.ofNat i)), .val (.long (own_S bs i)), .second] []) := by
  intro k
  induction k with
  | zero =>
    intro i hi Tz Xz ez kx
    obtain rfl : i = K := by omega
    refine ow_lload C Xz d12_47 rfl (pc' := 49) rfl ?_
    refine ow_lloadN C Xz d12_49 rfl (pc' := 50) rfl ?_
    refine ow_lcmp C Xz d12_50 (pc' := 51) rfl ?_
    refine ow_lif_ge C Xz d12_51 (pcT := 72) (pc' := 54) (by decide) (by decide) rfl (fun _ => ?_) (fun bq => absurd bq hhi)
    exact kx Tz Xz ez
  | succ k ih =>
    intro i hi Tz Xz ez kx
    have hiK : i < K := by omega
    refine ow_lload C Xz d12_47 rfl (pc' := 49) rfl ?_
    refine ow_lloadN C Xz d12_49 rfl (pc' := 50) rfl ?_
    refine ow_lcmp C Xz d12_50 (pc' := 51) rfl ?_
    refine ow_lif_ge C Xz d12_51 (pcT := 72) (pc' := 54) (by decide) (by decide) rfl (fun bq => absurd (hlo i hiK) bq) (fun _ => ?_)
    refine ow_iinc (1 : Int32) C Xz d12_54 (by decide) rfl (Ls' := #[.val (.ref o0), .val (.int q1), .val (.long rank), .second, .val (.int ((Int32.ofNat i) + (1 : Int32))), .val (.long (own_S bs i)), .second]) rfl (pc' := 57) rfl ?_
    rw [own_inc i]
    refine ow_lload C Xz d12_57 rfl (pc' := 59) rfl ?_
    refine ow_aloadN C Xz d12_59 rfl rfl (pc' := 60) rfl ?_
    refine ow_getF C Xz ez (hw _ (List.mem_of_getElem? (i := 45) rfl)) F1 d12_60 (pc' := 63) rfl (fun T19 X19 e19 => ?_)
    refine ow_iload C X19 d12_63 rfl (pc' := 65) rfl ?_
    refine ow_laload C X19 e19 A (own_ix0 (by omega)) (own_ixN (by omega)) (by omega) (v := (.long (own_cn bs (i + 1)))) rfl d12_65 (pc' := 66) rfl ?_
    refine ow_ladd C X19 d12_66 (pc' := 67) rfl ?_
    rw [own_Snext bs i]
    refine ow_lstore C X19 d12_67 (Ls' := #[.val (.ref o0), .val (.int q1), .val (.long rank), .second, .val (.int (Int32.ofNat (i + 1))), .val (.long (own_S bs (i + 1))), .second]) rfl (pc' := 69) rfl ?_
    refine ow_goto C X19 d12_69 (pcT := 47) (by decide) (by decide) ?_
    exact ih (i + 1) (by omega) T19 X19 e19 kx
set_option maxRecDepth 65536 in
set_option maxHeartbeats 40000000 in
theorem rm_pct (l : Launch) (Z : State) (a0 : Array Value) (hw : ∀ d ∈ tables_1, d.before a0 Z = true) (o0 : Addr) (q1 : Int32) (o2 : Addr) (bs : List Nat) (rank : Int64) (K : Nat) (kb : Int32) (hkb : kb = Int32.ofNat K) (hK : K < 55296) (hne : ¬ Int64.ofNat bs.length = 0) (hrk : (q1.toInt64 * Int64.ofNat bs.length + 99) / 100 = rank) (hlo : ∀ j, j < K → own_S bs j < rank) (hhi : ¬ own_S bs K < rank) (h0 : Heap) (F1 : Fld Z h0 o0 "com/example/topsail/topsail/cli/LatencyHistogram" "counts" "[J" (.ref o2)) (F2 : Fld Z h0 o0 "com/example/topsail/topsail/cli/LatencyHistogram" "count" "J" (.long (Int64.ofNat bs.length))) (A : OwA Z h0 o2 .long 55296 (fun j => .long (own_cn bs j))) :
    OwCon l (⟨"com/example/topsail/topsail/cli/LatencyHistogram", "percentile", "(I)J"⟩ : MethodName) prog_16_method_4_code 7 (some .long) ({ frames := 1, cells := 0, slots := 0, locals := 15 } : Room) Z #[(.ref o0), (.int q1)] h0 (OwP (some (.long (own_low kb))) h0) := by
  refine OwCon.of pn_12 (Ls := #[.val (.ref o0), .val (.int q1), .unset, .unset, .unset, .unset, .unset]) (fun m => by first | (simp [entryFrame, mkF, argsToLocals, Value.category]; done) | rfl) ?_
  intro p e s m below meth c s₁ C X0 e0
  refine ow_aloadN C X0 d12_0 rfl rfl (pc' := 1) rfl ?_
  refine ow_getF C X0 e0 (hw _ (List.mem_of_getElem? (i := 52) rfl)) F2 d12_1 (pc' := 4) rfl (fun T20 X20 e20 => ?_)
  refine ow_lconst (0 : Int64) C X20 d12_4 (by decide) (pc' := 5) rfl ?_
  refine ow_lcmp C X20 d12_5 (pc' := 6) rfl ?_
  refine ow_lif_ne C X20 d12_6 (pcT := 19) (pc' := 9) (by decide) (by decide) rfl (fun _ => ?_) (fun bq => absurd bq hne)
  refine ow_iloadN C X20 d12_19 rfl (pc' := 20) rfl ?_
  refine ow_i2l C X20 d12_20 (pc' := 21) rfl ?_
  refine ow_aloadN C X20 d12_21 rfl rfl (pc' := 22) rfl ?_
  refine ow_getF C X20 e20 (hw _ (List.mem_of_getElem? (i := 52) rfl)) F2 d12_22 (pc' := 25) rfl (fun T21 X21 e21 => ?_)
  refine ow_lmul C X21 d12_25 (pc' := 26) rfl ?_
  refine ow_ldc2 C X21 (hw _ (List.mem_of_getElem? (i := 59) rfl)) d12_26 (pc' := 29) rfl ?_
  refine ow_ladd C X21 d12_29 (pc' := 30) rfl ?_
  refine ow_ldc2 C X21 (hw _ (List.mem_of_getElem? (i := 60) rfl)) d12_30 (pc' := 33) rfl ?_
  refine ow_ldiv C X21 d12_33 (by decide) (pc' := 34) rfl ?_
  rw [hrk]
  refine ow_lstoreN C X21 d12_34 (Ls' := #[.val (.ref o0), .val (.int q1), .val (.long rank), .second, .unset, .unset, .unset]) rfl (pc' := 35) rfl ?_
  refine ow_iconst (0 : Int32) C X21 d12_35 (by decide) (pc' := 36) rfl ?_
  refine ow_istore C X21 d12_36 (Ls' := #[.val (.ref o0), .val (.int q1), .val (.long rank), .second, .val (.int (0 : Int32)), .unset, .unset]) rfl (pc' := 38) rfl ?_
  refine ow_aloadN C X21 d12_38 rfl rfl (pc' := 39) rfl ?_
  refine ow_getF C X21 e21 (hw _ (List.mem_of_getElem? (i := 45) rfl)) F1 d12_39 (pc' := 42) rfl (fun T22 X22 e22 => ?_)
  refine ow_iload C X22 d12_42 rfl (pc' := 44) rfl ?_
  refine ow_laload C X22 e22 A (by decide) (by decide) (Nat.le_of_ble_eq_true rfl) (v := (.long (own_cn bs 0))) rfl d12_44 (pc' := 45) rfl ?_
  rw [own_S0 bs]
  refine ow_lstore C X22 d12_45 (Ls' := #[.val (.ref o0), .val (.int q1), .val (.long rank), .second, .val (.int (0 : Int32)), .val (.long (own_S bs 0)), .second]) rfl (pc' := 47) rfl ?_
  refine lp_pct l Z a0 hw o0 q1 o2 bs rank K hK hlo hhi h0 F1 A C K 0 (Nat.zero_add K) T22 X22 e22 (fun T23 X23 e23 => ?_)
  refine ow_iload C X23 d12_72 rfl (pc' := 74) rfl ?_
  refine ow_callSP C X23 e23 (hw _ (List.mem_of_getElem? (i := 61) rfl)) (hw _ (List.mem_of_getElem? (i := 62) rfl)) (hw _ (List.mem_of_getElem? (i := 23) rfl)) (hw _ (List.mem_of_getElem? (i := 63) rfl)) (by decide) (rm_low l Z a0 hw (Int32.ofNat K) h0) ⟨rfl, rfl⟩ pd_2 rfl (argsL := [(.int (Int32.ofNat K))]) (rest := []) rfl rfl d12_74 (Nat.le_of_ble_eq_true rfl) (Nat.le_of_ble_eq_true rfl) (Nat.le_of_ble_eq_true rfl) (Nat.le_of_ble_eq_true rfl) (pc' := 77) rfl (fun T24 X24 e24 => ?_)
  exact ow_retJ C X24 d12_77 (Nat.le_of_ble_eq_true rfl) (Nat.le_of_ble_eq_true rfl) ⟨by rw [hkb], rfl, e24⟩
theorem d2_0 : decode method_2_code 0 = .ok (.iload_n 0, 1) := by decide +kernel
theorem d2_1 : decode method_2_code 1 = .ok (.ldc 7, 2) := by decide +kernel
theorem d2_3 : decode method_2_code 3 = .ok (.iand, 1) := by decide +kernel
theorem d2_4 : decode method_2_code 4 = .ok (.bipush 53, 2) := by decide +kernel
theorem d2_6 : decode method_2_code 6 = .ok (.irem, 1) := by decide +kernel
theorem d2_7 : decode method_2_code 7 = .ok (.ireturn, 1) := by decide +kernel
theorem pn_2 : plainFor (⟨"com/example/topsail/topsail/cli/LatencyHistogramPercentilePinLaw", "shift", "(I)I"⟩ : MethodName) = true := by first | exact plainFor_of_name (by first | (simp [plainName, overriddenIn]; done) | decide +kernel) | decide +kernel
def own_shift (q0 : Int32) : Int32 := ((q0 &&& (2147483647 : Int32)) - ((q0 &&& (2147483647 : Int32)) / (53 : Int32)) * (53 : Int32))
set_option maxRecDepth 65536 in
set_option maxHeartbeats 40000000 in
theorem rm_shift (l : Launch) (Z : State) (a0 : Array Value) (hw : ∀ d ∈ tables_1, d.before a0 Z = true) (q0 : Int32)  (h0 : Heap)   :
    OwCon l (⟨"com/example/topsail/topsail/cli/LatencyHistogramPercentilePinLaw", "shift", "(I)I"⟩ : MethodName) method_2_code 1 (some .int) ({ frames := 0, cells := 0, slots := 0, locals := 0 } : Room) Z #[(.int q0)] h0 (OwP (some (.int (own_shift q0))) h0) := by
  refine OwCon.of pn_2 (Ls := #[.val (.int q0)]) (fun m => by first | (simp [entryFrame, mkF, argsToLocals, Value.category]; done) | rfl) ?_
  intro p e s m below meth c s₁ C X0 e0
  refine ow_iloadN C X0 d2_0 rfl (pc' := 1) rfl ?_
  refine ow_ldc C X0 (hw _ (List.mem_of_getElem? (i := 0) rfl)) d2_1 (pc' := 3) rfl ?_
  refine ow_iand C X0 d2_3 (pc' := 4) rfl ?_
  refine ow_bipush (53 : Int32) C X0 d2_4 (by decide) (pc' := 6) rfl ?_
  refine ow_irem C X0 d2_6 (by decide) (pc' := 7) rfl ?_
  exact ow_retI C X0 d2_7 (Nat.le_of_ble_eq_true rfl) (Nat.le_of_ble_eq_true rfl) ⟨(show some (Value.int ((q0 &&& (2147483647 : Int32)) - ((q0 &&& (2147483647 : Int32)) / (53 : Int32)) * (53 : Int32))) = some (Value.int (own_shift q0)) from congrArg (fun z => some (Value.int z)) rfl), rfl, e0⟩
theorem d1_0 : decode method_3_code 0 = .ok (.iload_n 2, 1) := by decide +kernel
theorem d1_1 : decode method_3_code 1 = .ok (.invokestatic 8, 3) := by decide +kernel
theorem d1_4 : decode method_3_code 4 = .ok (.istore_n 3, 1) := by decide +kernel
theorem d1_5 : decode method_3_code 5 = .ok (.iload_n 3, 1) := by decide +kernel
theorem d1_6 : decode method_3_code 6 = .ok (.ifCond .ne 9, 3) := by decide +kernel
theorem d1_9 : decode method_3_code 9 = .ok (.lload_n 0, 1) := by decide +kernel
theorem d1_10 : decode method_3_code 10 = .ok (.ldc2_w 14, 3) := by decide +kernel
theorem d1_13 : decode method_3_code 13 = .ok (.land, 1) := by decide +kernel
theorem d1_14 : decode method_3_code 14 = .ok (.lreturn, 1) := by decide +kernel
theorem d1_15 : decode method_3_code 15 = .ok (.ldc2_w 16, 3) := by decide +kernel
theorem d1_18 : decode method_3_code 18 = .ok (.lload_n 0, 1) := by decide +kernel
theorem d1_19 : decode method_3_code 19 = .ok (.ldc2_w 18, 3) := by decide +kernel
theorem d1_22 : decode method_3_code 22 = .ok (.land, 1) := by decide +kernel
theorem d1_23 : decode method_3_code 23 = .ok (.lor, 1) := by decide +kernel
theorem d1_24 : decode method_3_code 24 = .ok (.lstore 4, 2) := by decide +kernel
theorem d1_26 : decode method_3_code 26 = .ok (.lload_n 0, 1) := by decide +kernel
theorem d1_27 : decode method_3_code 27 = .ok (.bipush 11, 2) := by decide +kernel
theorem d1_29 : decode method_3_code 29 = .ok (.lushr, 1) := by decide +kernel
theorem d1_30 : decode method_3_code 30 = .ok (.lconst 1, 1) := by decide +kernel
theorem d1_31 : decode method_3_code 31 = .ok (.iload_n 3, 1) := by decide +kernel
theorem d1_32 : decode method_3_code 32 = .ok (.lshl, 1) := by decide +kernel
theorem d1_33 : decode method_3_code 33 = .ok (.lconst 1, 1) := by decide +kernel
theorem d1_34 : decode method_3_code 34 = .ok (.lsub, 1) := by decide +kernel
theorem d1_35 : decode method_3_code 35 = .ok (.land, 1) := by decide +kernel
theorem d1_36 : decode method_3_code 36 = .ok (.lstore 6, 2) := by decide +kernel
theorem d1_38 : decode method_3_code 38 = .ok (.lload 4, 2) := by decide +kernel
theorem d1_40 : decode method_3_code 40 = .ok (.iload_n 3, 1) := by decide +kernel
theorem d1_41 : decode method_3_code 41 = .ok (.lshl, 1) := by decide +kernel
theorem d1_42 : decode method_3_code 42 = .ok (.lload 6, 2) := by decide +kernel
theorem d1_44 : decode method_3_code 44 = .ok (.lor, 1) := by decide +kernel
theorem d1_45 : decode method_3_code 45 = .ok (.lreturn, 1) := by decide +kernel
theorem pn_1 : plainFor (⟨"com/example/topsail/topsail/cli/LatencyHistogramPercentilePinLaw", "value", "(JI)J"⟩ : MethodName) = true := by first | exact plainFor_of_name (by first | (simp [plainName, overriddenIn]; done) | decide +kernel) | decide +kernel
theorem pd_6 : parseMethodDescriptor "(JI)J" = some ⟨[.long, .int], (some .long)⟩ := by decide +kernel
def own_val (q0 : Int64) (q1 : Int32) : Int64 := if (own_shift q1) = 0 then (q0 &&& (2047 : Int64)) else ((((1024 : Int64) ||| (q0 &&& (1023 : Int64))) <<< ((own_shift q1).toInt64 &&& 63)) ||| ((XT.ushrL q0 (11 : Int32)) &&& (((1 : Int64) <<< ((own_shift q1).toInt64 &&& 63)) - (1 : Int64))))
set_option maxRecDepth 65536 in
set_option maxHeartbeats 40000000 in
theorem rm_val (l : Launch) (Z : State) (a0 : Array Value) (hw : ∀ d ∈ tables_1, d.before a0 Z = true) (q0 : Int64) (q1 : Int32)  (h0 : Heap)   :
    OwCon l (⟨"com/example/topsail/topsail/cli/LatencyHistogramPercentilePinLaw", "value", "(JI)J"⟩ : MethodName) method_3_code 8 (some .long) ({ frames := 1, cells := 0, slots := 0, locals := 12 } : Room) Z #[(.long q0), (.int q1)] h0 (OwP (some (.long (own_val q0 q1))) h0) := by
  refine OwCon.of pn_1 (Ls := #[.val (.long q0), .second, .val (.int q1), .unset, .unset, .unset, .unset, .unset]) (fun m => by first | (simp [entryFrame, mkF, argsToLocals, Value.category]; done) | rfl) ?_
  intro p e s m below meth c s₁ C X0 e0
  refine ow_iloadN C X0 d1_0 rfl (pc' := 1) rfl ?_
  refine ow_callSP C X0 e0 (hw _ (List.mem_of_getElem? (i := 5) rfl)) (hw _ (List.mem_of_getElem? (i := 6) rfl)) (hw _ (List.mem_of_getElem? (i := 3) rfl)) (hw _ (List.mem_of_getElem? (i := 7) rfl)) (by decide) (rm_shift l Z a0 hw q1 h0) ⟨rfl, rfl⟩ pd_0 rfl (argsL := [(.int q1)]) (rest := []) rfl rfl d1_1 (Nat.le_of_ble_eq_true rfl) (Nat.le_of_ble_eq_true rfl) (Nat.le_of_ble_eq_true rfl) (Nat.le_of_ble_eq_true rfl) (pc' := 4) rfl (fun T25 X25 e25 => ?_)
  refine ow_istoreN C X25 d1_4 (Ls' := #[.val (.long q0), .second, .val (.int q1), .val (.int (own_shift q1)), .unset, .unset, .unset, .unset]) rfl (pc' := 5) rfl ?_
  refine ow_iloadN C X25 d1_5 rfl (pc' := 6) rfl ?_
  refine ow_if_ne C X25 d1_6 (pcT := 15) (pc' := 9) (by decide) (by decide) rfl (fun b6 => ?_) (fun b6 => ?_)
  · refine ow_ldc2 C X25 (hw _ (List.mem_of_getElem? (i := 8) rfl)) d1_15 (pc' := 18) rfl ?_
    refine ow_lloadN C X25 d1_18 rfl (pc' := 19) rfl ?_
    refine ow_ldc2 C X25 (hw _ (List.mem_of_getElem? (i := 9) rfl)) d1_19 (pc' := 22) rfl ?_
    refine ow_land C X25 d1_22 (pc' := 23) rfl ?_
    refine ow_lor C X25 d1_23 (pc' := 24) rfl ?_
    refine ow_lstore C X25 d1_24 (Ls' := #[.val (.long q0), .second, .val (.int q1), .val (.int (own_shift q1)), .val (.long ((1024 : Int64) ||| (q0 &&& (1023 : Int64)))), .second, .unset, .unset]) rfl (pc' := 26) rfl ?_
    refine ow_lloadN C X25 d1_26 rfl (pc' := 27) rfl ?_
    refine ow_bipush (11 : Int32) C X25 d1_27 (by decide) (pc' := 29) rfl ?_
    refine ow_lushr C X25 d1_29 (pc' := 30) rfl ?_
    refine ow_lconst (1 : Int64) C X25 d1_30 (by decide) (pc' := 31) rfl ?_
    refine ow_iloadN C X25 d1_31 rfl (pc' := 32) rfl ?_
    refine ow_lshl C X25 d1_32 (pc' := 33) rfl ?_
    refine ow_lconst (1 : Int64) C X25 d1_33 (by decide) (pc' := 34) rfl ?_
    refine ow_lsub C X25 d1_34 (pc' := 35) rfl ?_
    refine ow_land C X25 d1_35 (pc' := 36) rfl ?_
    refine ow_lstore C X25 d1_36 (Ls' := #[.val (.long q0), .second, .val (.int q1), .val (.int (own_shift q1)), .val (.long ((1024 : Int64) ||| (q0 &&& (1023 : Int64)))), .second, .val (.long ((XT.ushrL q0 (11 : Int32)) &&& (((1 : Int64) <<< ((own_shift q1).toInt64 &&& 63)) - (1 : Int64)))), .second]) rfl (pc' := 38) rfl ?_
    refine ow_lload C X25 d1_38 rfl (pc' := 40) rfl ?_
    refine ow_iloadN C X25 d1_40 rfl (pc' := 41) rfl ?_
    refine ow_lshl C X25 d1_41 (pc' := 42) rfl ?_
    refine ow_lload C X25 d1_42 rfl (pc' := 44) rfl ?_
    refine ow_lor C X25 d1_44 (pc' := 45) rfl ?_
    exact ow_retJ C X25 d1_45 (Nat.le_of_ble_eq_true rfl) (Nat.le_of_ble_eq_true rfl) ⟨(show some (Value.long ((((1024 : Int64) ||| (q0 &&& (1023 : Int64))) <<< ((own_shift q1).toInt64 &&& 63)) ||| ((XT.ushrL q0 (11 : Int32)) &&& (((1 : Int64) <<< ((own_shift q1).toInt64 &&& 63)) - (1 : Int64))))) = some (Value.long (own_val q0 q1)) from congrArg (fun z => some (Value.long z)) (by unfold own_val; rw [if_neg b6])), rfl, e25⟩
  · refine ow_lloadN C X25 d1_9 rfl (pc' := 10) rfl ?_
    refine ow_ldc2 C X25 (hw _ (List.mem_of_getElem? (i := 10) rfl)) d1_10 (pc' := 13) rfl ?_
    refine ow_land C X25 d1_13 (pc' := 14) rfl ?_
    exact ow_retJ C X25 d1_14 (Nat.le_of_ble_eq_true rfl) (Nat.le_of_ble_eq_true rfl) ⟨(show some (Value.long (q0 &&& (2047 : Int64))) = some (Value.long (own_val q0 q1)) from congrArg (fun z => some (Value.long z)) (by unfold own_val; rw [if_pos b6])), rfl, e25⟩
theorem d3_0 : decode method_4_code 0 = .ok (.iload_n 2, 1) := by decide +kernel
theorem d3_1 : decode method_4_code 1 = .ok (.invokestatic 8, 3) := by decide +kernel
theorem d3_4 : decode method_4_code 4 = .ok (.istore_n 3, 1) := by decide +kernel
theorem d3_5 : decode method_4_code 5 = .ok (.iload_n 3, 1) := by decide +kernel
theorem d3_6 : decode method_4_code 6 = .ok (.ifCond .ne 9, 3) := by decide +kernel
theorem d3_9 : decode method_4_code 9 = .ok (.lload_n 0, 1) := by decide +kernel
theorem d3_10 : decode method_4_code 10 = .ok (.ldc2_w 14, 3) := by decide +kernel
theorem d3_13 : decode method_4_code 13 = .ok (.land, 1) := by decide +kernel
theorem d3_14 : decode method_4_code 14 = .ok (.lreturn, 1) := by decide +kernel
theorem d3_15 : decode method_4_code 15 = .ok (.ldc2_w 16, 3) := by decide +kernel
theorem d3_18 : decode method_4_code 18 = .ok (.lload_n 0, 1) := by decide +kernel
theorem d3_19 : decode method_4_code 19 = .ok (.ldc2_w 18, 3) := by decide +kernel
theorem d3_22 : decode method_4_code 22 = .ok (.land, 1) := by decide +kernel
theorem d3_23 : decode method_4_code 23 = .ok (.lor, 1) := by decide +kernel
theorem d3_24 : decode method_4_code 24 = .ok (.iload_n 3, 1) := by decide +kernel
theorem d3_25 : decode method_4_code 25 = .ok (.lshl, 1) := by decide +kernel
theorem d3_26 : decode method_4_code 26 = .ok (.lreturn, 1) := by decide +kernel
theorem pn_3 : plainFor (⟨"com/example/topsail/topsail/cli/LatencyHistogramPercentilePinLaw", "lowest", "(JI)J"⟩ : MethodName) = true := by first | exact plainFor_of_name (by first | (simp [plainName, overriddenIn]; done) | decide +kernel) | decide +kernel
def own_lws (q0 : Int64) (q1 : Int32) : Int64 := if (own_shift q1) = 0 then (q0 &&& (2047 : Int64)) else (((1024 : Int64) ||| (q0 &&& (1023 : Int64))) <<< ((own_shift q1).toInt64 &&& 63))
set_option maxRecDepth 65536 in
set_option maxHeartbeats 40000000 in
theorem rm_lws (l : Launch) (Z : State) (a0 : Array Value) (hw : ∀ d ∈ tables_1, d.before a0 Z = true) (q0 : Int64) (q1 : Int32)  (h0 : Heap)   :
    OwCon l (⟨"com/example/topsail/topsail/cli/LatencyHistogramPercentilePinLaw", "lowest", "(JI)J"⟩ : MethodName) method_4_code 4 (some .long) ({ frames := 1, cells := 0, slots := 0, locals := 12 } : Room) Z #[(.long q0), (.int q1)] h0 (OwP (some (.long (own_lws q0 q1))) h0) := by
  refine OwCon.of pn_3 (Ls := #[.val (.long q0), .second, .val (.int q1), .unset]) (fun m => by first | (simp [entryFrame, mkF, argsToLocals, Value.category]; done) | rfl) ?_
  intro p e s m below meth c s₁ C X0 e0
  refine ow_iloadN C X0 d3_0 rfl (pc' := 1) rfl ?_
  refine ow_callSP C X0 e0 (hw _ (List.mem_of_getElem? (i := 5) rfl)) (hw _ (List.mem_of_getElem? (i := 6) rfl)) (hw _ (List.mem_of_getElem? (i := 3) rfl)) (hw _ (List.mem_of_getElem? (i := 7) rfl)) (by decide) (rm_shift l Z a0 hw q1 h0) ⟨rfl, rfl⟩ pd_0 rfl (argsL := [(.int q1)]) (rest := []) rfl rfl d3_1 (Nat.le_of_ble_eq_true rfl) (Nat.le_of_ble_eq_true rfl) (Nat.le_of_ble_eq_true rfl) (Nat.le_of_ble_eq_true rfl) (pc' := 4) rfl (fun T26 X26 e26 => ?_)
  refine ow_istoreN C X26 d3_4 (Ls' := #[.val (.long q0), .second, .val (.int q1), .val (.int (own_shift q1))]) rfl (pc' := 5) rfl ?_
  refine ow_iloadN C X26 d3_5 rfl (pc' := 6) rfl ?_
  refine ow_if_ne C X26 d3_6 (pcT := 15) (pc' := 9) (by decide) (by decide) rfl (fun b6 => ?_) (fun b6 => ?_)
  · refine ow_ldc2 C X26 (hw _ (List.mem_of_getElem? (i := 8) rfl)) d3_15 (pc' := 18) rfl ?_
    refine ow_lloadN C X26 d3_18 rfl (pc' := 19) rfl ?_
    refine ow_ldc2 C X26 (hw _ (List.mem_of_getElem? (i := 9) rfl)) d3_19 (pc' := 22) rfl ?_
    refine ow_land C X26 d3_22 (pc' := 23) rfl ?_
    refine ow_lor C X26 d3_23 (pc' := 24) rfl ?_
    refine ow_iloadN C X26 d3_24 rfl (pc' := 25) rfl ?_
    refine ow_lshl C X26 d3_25 (pc' := 26) rfl ?_
    exact ow_retJ C X26 d3_26 (Nat.le_of_ble_eq_true rfl) (Nat.le_of_ble_eq_true rfl) ⟨(show some (Value.long (((1024 : Int64) ||| (q0 &&& (1023 : Int64))) <<< ((own_shift q1).toInt64 &&& 63))) = some (Value.long (own_lws q0 q1)) from congrArg (fun z => some (Value.long z)) (by unfold own_lws; rw [if_neg b6])), rfl, e26⟩
  · refine ow_lloadN C X26 d3_9 rfl (pc' := 10) rfl ?_
    refine ow_ldc2 C X26 (hw _ (List.mem_of_getElem? (i := 10) rfl)) d3_10 (pc' := 13) rfl ?_
    refine ow_land C X26 d3_13 (pc' := 14) rfl ?_
    exact ow_retJ C X26 d3_14 (Nat.le_of_ble_eq_true rfl) (Nat.le_of_ble_eq_true rfl) ⟨(show some (Value.long (q0 &&& (2047 : Int64))) = some (Value.long (own_lws q0 q1)) from congrArg (fun z => some (Value.long z)) (by unfold own_lws; rw [if_pos b6])), rfl, e26⟩
/-! numbers: shifts, the top bit, buckets -/
theorem own_rngI (x : Int32) : -2147483648 ≤ x.toInt ∧ x.toInt ≤ 2147483647 := ⟨x.le_toInt, Int.le_of_lt_add_one x.toInt_lt⟩
theorem own_rngL (x : Int64) : -9223372036854775808 ≤ x.toInt ∧ x.toInt ≤ 9223372036854775807 := ⟨x.le_toInt, Int.le_of_lt_add_one x.toInt_lt⟩
theorem own_bmI {n : Int} (h : -2147483648 ≤ n ∧ n ≤ 2147483647) : n.bmod (2 ^ 32) = n := Int.bmod_eq_of_le (by omega) (by omega)
theorem own_bmL {n : Int} (h : -9223372036854775808 ≤ n ∧ n ≤ 9223372036854775807) : n.bmod (2 ^ 64) = n := Int.bmod_eq_of_le (by omega) (by omega)
theorem own_addI {x y : Int32} (h : -2147483648 ≤ x.toInt + y.toInt ∧ x.toInt + y.toInt ≤ 2147483647) : (x + y).toInt = x.toInt + y.toInt := by rw [Int32.toInt_add, own_bmI h]
theorem own_subI {x y : Int32} (h : -2147483648 ≤ x.toInt - y.toInt ∧ x.toInt - y.toInt ≤ 2147483647) : (x - y).toInt = x.toInt - y.toInt := by rw [Int32.toInt_sub, own_bmI h]
theorem own_mulI {x y : Int32} (h : -2147483648 ≤ x.toInt * y.toInt ∧ x.toInt * y.toInt ≤ 2147483647) : (x * y).toInt = x.toInt * y.toInt := by rw [Int32.toInt_mul, own_bmI h]
theorem own_addL {x y : Int64} (h : -9223372036854775808 ≤ x.toInt + y.toInt ∧ x.toInt + y.toInt ≤ 9223372036854775807) : (x + y).toInt = x.toInt + y.toInt := by rw [Int64.toInt_add, own_bmL h]
theorem own_subL {x y : Int64} (h : -9223372036854775808 ≤ x.toInt - y.toInt ∧ x.toInt - y.toInt ≤ 9223372036854775807) : (x - y).toInt = x.toInt - y.toInt := by rw [Int64.toInt_sub, own_bmL h]
theorem own_mulL {x y : Int64} (h : -9223372036854775808 ≤ x.toInt * y.toInt ∧ x.toInt * y.toInt ≤ 9223372036854775807) : (x * y).toInt = x.toInt * y.toInt := by rw [Int64.toInt_mul, own_bmL h]
theorem own_divL {x y : Int64} (hx : 0 ≤ x.toInt) (hy : 0 < y.toInt) : (x / y).toInt = x.toInt / y.toInt := by
  have r := own_rngL x
  have h : x.toInt.tdiv y.toInt = x.toInt / y.toInt := Int.tdiv_eq_ediv_of_nonneg hx
  have h1 : x.toInt / y.toInt ≤ x.toInt := Int.ediv_le_self _ hx
  have h2 : 0 ≤ x.toInt / y.toInt := Int.ediv_nonneg hx (by omega)
  rw [Int64.toInt_div, h, own_bmL (by omega)]
theorem own_divI {x y : Int32} (hx : 0 ≤ x.toInt) (hy : 0 < y.toInt) : (x / y).toInt = x.toInt / y.toInt := by
  have r := own_rngI x
  have h : x.toInt.tdiv y.toInt = x.toInt / y.toInt := Int.tdiv_eq_ediv_of_nonneg hx
  have h1 : x.toInt / y.toInt ≤ x.toInt := Int.ediv_le_self _ hx
  have h2 : 0 ≤ x.toInt / y.toInt := Int.ediv_nonneg hx (by omega)
  rw [Int32.toInt_div, h, own_bmI (by omega)]
theorem own_l2i {x : Int64} (h : -2147483648 ≤ x.toInt ∧ x.toInt ≤ 2147483647) : x.toInt32.toInt = x.toInt := by rw [Int64.toInt_toInt32, own_bmI h]
theorem own_i2l (x : Int32) : x.toInt64.toInt = x.toInt := Int32.toInt_toInt64 x
theorem own_natL {x : Int64} (h : 0 ≤ x.toInt) : (x.toBitVec.toNat : Int) = x.toInt := by
  have e : x.toInt = x.toBitVec.toInt := rfl
  rw [e] at h ⊢
  rw [BitVec.toInt_eq_toNat_cond] at h ⊢
  split at h <;> rename_i q
  · rw [if_pos q]
  · have := x.toBitVec.isLt; omega
theorem own_ofNatL {b : BitVec 64} (h : b.toNat < 9223372036854775808) : (Int64.ofBitVec b).toInt = b.toNat := by
  show b.toInt = _
  rw [BitVec.toInt_eq_toNat_cond, if_pos (by omega)]
theorem own_natI {x : Int32} (h : 0 ≤ x.toInt) : (x.toBitVec.toNat : Int) = x.toInt := by
  have e : x.toInt = x.toBitVec.toInt := rfl
  rw [e] at h ⊢
  rw [BitVec.toInt_eq_toNat_cond] at h ⊢
  split at h <;> rename_i q
  · rw [if_pos q]
  · have := x.toBitVec.isLt; omega
theorem own_ofNatI {b : BitVec 32} (h : b.toNat < 2147483648) : (Int32.ofBitVec b).toInt = b.toNat := by
  show b.toInt = _
  rw [BitVec.toInt_eq_toNat_cond, if_pos (by omega)]
theorem own_isI {y : Int32} {k : Nat} (hy : y.toInt = k) : y = Int32.ofInt (k : Nat) := by rw [← hy, Int32.ofInt_toInt]
theorem own_shU : ∀ k, k < 64 → ((Int32.ofInt ((k : Nat) : Int)).toInt64.toUInt64 &&& Int64.toUInt64 63).toNat = k := by decide +kernel
theorem own_shS : ∀ k, k < 64 → (((Int32.ofInt ((k : Nat) : Int)).toInt64 &&& 63).toBitVec.smod 64).toNat = k := by decide +kernel
theorem own_shI : ∀ k, k < 32 → ((Int32.ofInt ((k : Nat) : Int)) &&& 31).toUInt32.toNat = k := by decide +kernel
theorem own_ushrL {x : Int64} {y : Int32} (k : Nat) (hk : k < 64) (hy : y.toInt = k) (hx : 0 ≤ x.toInt) : (XT.ushrL x y).toInt = x.toInt / 2 ^ k := by
  obtain rfl := own_isI hy
  have hu := own_shU k hk
  generalize hU : ((Int32.ofInt ((k : Nat) : Int)).toInt64.toUInt64 &&& Int64.toUInt64 63) = u at hu
  have e : XT.ushrL x (Int32.ofInt ((k : Nat) : Int)) = (x.toUInt64 >>> u).toInt64 := by rw [← hU]; rfl
  rw [e]
  have hn := own_natL hx
  have r := own_rngL x
  have hv : ((x.toUInt64 >>> u).toBitVec).toNat = x.toBitVec.toNat / 2 ^ k := by
    show (x.toUInt64 >>> u).toNat = _
    rw [UInt64.toNat_shiftRight, hu, Nat.mod_eq_of_lt hk, Nat.shiftRight_eq_div_pow]; rfl
  have hle : x.toBitVec.toNat / 2 ^ k ≤ x.toBitVec.toNat := Nat.div_le_self _ _
  have := own_ofNatL (b := (x.toUInt64 >>> u).toBitVec) (by rw [hv]; omega)
  show (Int64.ofBitVec (x.toUInt64 >>> u).toBitVec).toInt = _
  rw [this, hv, ← hn]; simp
theorem own_ushr {x : Int32} {y : Int32} (k : Nat) (hk : k < 32) (hy : y.toInt = k) (hx : 0 ≤ x.toInt) : (XT.ushr x y).toInt = x.toInt / 2 ^ k := by
  obtain rfl := own_isI hy
  have hu := own_shI k hk
  generalize hU : ((Int32.ofInt ((k : Nat) : Int)) &&& 31).toUInt32 = u at hu
  have e : XT.ushr x (Int32.ofInt ((k : Nat) : Int)) = (x.toUInt32 >>> u).toInt32 := by rw [← hU]; rfl
  rw [e]
  have hn := own_natI hx
  have r := own_rngI x
  have hv : ((x.toUInt32 >>> u).toBitVec).toNat = x.toBitVec.toNat / 2 ^ k := by
    show (x.toUInt32 >>> u).toNat = _
    rw [UInt32.toNat_shiftRight, hu, Nat.mod_eq_of_lt hk, Nat.shiftRight_eq_div_pow]; rfl
  have hle : x.toBitVec.toNat / 2 ^ k ≤ x.toBitVec.toNat := Nat.div_le_self _ _
  have := own_ofNatI (b := (x.toUInt32 >>> u).toBitVec) (by rw [hv]; omega)
  show (Int32.ofBitVec (x.toUInt32 >>> u).toBitVec).toInt = _
  rw [this, hv, ← hn]; simp
theorem own_shlL {x : Int64} {y : Int32} (k : Nat) (hk : k < 64) (hy : y.toInt = k) (hx : 0 ≤ x.toInt) (hb : x.toInt * 2 ^ k < 9223372036854775808) : (x <<< (y.toInt64 &&& 63)).toInt = x.toInt * 2 ^ k := by
  obtain rfl := own_isI hy
  have hu := own_shS k hk
  have hn := own_natL hx
  have hP : ((2 ^ k : Nat) : Int) = 2 ^ k := by simp
  have hv : (x.toBitVec <<< (((Int32.ofInt ((k : Nat) : Int)).toInt64 &&& 63).toBitVec.smod 64)).toNat = x.toBitVec.toNat * 2 ^ k := by
    show (x.toBitVec <<< (((Int32.ofInt ((k : Nat) : Int)).toInt64 &&& 63).toBitVec.smod 64).toNat).toNat = _
    rw [hu, BitVec.toNat_shiftLeft, Nat.shiftLeft_eq]
    apply Nat.mod_eq_of_lt
    have : ((x.toBitVec.toNat * 2 ^ k : Nat) : Int) < 9223372036854775808 := by rw [Int.natCast_mul, hn, hP]; exact hb
    omega
  have hlt : x.toBitVec.toNat * 2 ^ k < 9223372036854775808 := by
    have : ((x.toBitVec.toNat * 2 ^ k : Nat) : Int) < 9223372036854775808 := by rw [Int.natCast_mul, hn, hP]; exact hb
    omega
  show (Int64.ofBitVec (x.toBitVec <<< (((Int32.ofInt ((k : Nat) : Int)).toInt64 &&& 63).toBitVec.smod 64))).toInt = _
  rw [own_ofNatL (by rw [hv]; exact hlt), hv, Int.natCast_mul, hn, hP]
theorem own_dd (X : Int) (a b : Nat) : X / 2 ^ a / 2 ^ b = X / 2 ^ (a + b) := by
  have hp : (0 : Int) < 2 ^ a := Int.pow_pos (by decide)
  rw [Int.ediv_ediv, if_neg (fun q => by have := q.1; omega), Int.pow_add, Int.sub_zero]
theorem own_pw {a b : Nat} (h : a ≤ b) : (2 : Int) ^ a ≤ 2 ^ b := by
  have := Nat.pow_le_pow_right (n := 2) (by decide) h
  exact_mod_cast this
/-- one step of the search for the top bit of an int -/
theorem own_nstep {X : Int} {v n thr k neg : Int32} {e K : Nat} (hv : X / 2 ^ e = v.toInt) (hn : n.toInt = 31 - e) (he : e ≤ 31) (h0 : 0 < v.toInt) (hthr : thr.toInt = 2 ^ K) (hk : k.toInt = K) (hK : K < 32) (hneg : neg.toInt = -K) (hub : v.toInt < 2 ^ K * 2 ^ K) :
    ∃ e', e' ≤ e + K ∧ X / 2 ^ e' = (if v < thr then v else XT.ushr v k).toInt ∧ (if v < thr then n else n + neg).toInt = 31 - e' ∧ 0 < (if v < thr then v else XT.ushr v k).toInt ∧ (if v < thr then v else XT.ushr v k).toInt < 2 ^ K := by
  by_cases h : v < thr
  · rw [if_pos h, if_pos h]; rw [Int32.lt_iff_toInt_lt, hthr] at h
    exact ⟨e, by omega, hv, hn, h0, h⟩
  · rw [if_neg h, if_neg h]; rw [Int32.lt_iff_toInt_lt, hthr] at h
    have hu := own_ushr (x := v) (y := k) K hK hk (by omega)
    have hp : (0 : Int) < 2 ^ K := Int.pow_pos (by decide)
    have h1 : 0 < v.toInt / 2 ^ K := Int.le_ediv_of_mul_le hp (by omega)
    refine ⟨e + K, Nat.le_refl _, ?_, ?_, ?_, ?_⟩
    · rw [hu, ← hv, own_dd]
    · rw [own_addI (by rw [hn, hneg]; omega), hn, hneg]; omega
    · rw [hu]; exact h1
    · rw [hu]; exact Int.ediv_lt_of_lt_mul hp hub
theorem own_nlz_spec (x : Int32) (hx : 0 < x.toInt) : ∃ e : Nat, e < 31 ∧ (own_nlz x).toInt = 31 - e ∧ 2 ^ e ≤ x.toInt ∧ x.toInt < 2 ^ (e + 1) := by
  have r := own_rngI x
  obtain ⟨e1, k1, v1, n1, p1, u1⟩ := own_nstep (X := x.toInt) (v := x) (n := 31) (thr := 65536) (k := 16) (neg := -16) (e := 0) (K := 16) (by simp) (by decide) (by omega) hx (by decide) (by decide) (by decide) (by decide) (by omega)
  obtain ⟨e2, k2, v2, n2, p2, u2⟩ := own_nstep (X := x.toInt) (v := own_nlz_j33_l0 x) (n := own_nlz_j33_l1 x) (thr := 256) (k := 8) (neg := -8) (e := e1) (K := 8) v1 n1 (by omega) p1 (by decide) (by decide) (by decide) (by decide) u1
  obtain ⟨e3, k3, v3, n3, p3, u3⟩ := own_nstep (X := x.toInt) (v := own_nlz_j48_l0 x) (n := own_nlz_j48_l1 x) (thr := 16) (k := 4) (neg := -4) (e := e2) (K := 4) v2 n2 (by omega) p2 (by decide) (by decide) (by decide) (by decide) u2
  obtain ⟨e4, k4, v4, n4, p4, u4⟩ := own_nstep (X := x.toInt) (v := own_nlz_j61_l0 x) (n := own_nlz_j61_l1 x) (thr := 4) (k := 2) (neg := -2) (e := e3) (K := 2) v3 n3 (by omega) p3 (by decide) (by decide) (by decide) (by decide) u3
  have f0 : (if own_nlz_j61_l0 x < 4 then own_nlz_j61_l0 x else XT.ushr (own_nlz_j61_l0 x) 2) = own_nlz_j73_l0 x := rfl
  have f1 : (if own_nlz_j61_l0 x < 4 then own_nlz_j61_l1 x else own_nlz_j61_l1 x + -2) = own_nlz_j73_l1 x := rfl
  rw [f0] at v4 p4 u4
  rw [f1] at n4
  have hr : own_nlz x = own_nlz_j73_l1 x - XT.ushr (own_nlz_j73_l0 x) 1 := by
    unfold own_nlz; rw [if_pos (by rw [Int32.lt_iff_toInt_lt]; exact hx)]
  have hu := own_ushr (x := own_nlz_j73_l0 x) (y := 1) 1 (by decide) (by decide) (by omega)
  have hres : (own_nlz x).toInt = 31 - e4 - (own_nlz_j73_l0 x).toInt / 2 := by
    rw [hr, own_subI (by rw [n4, hu]; simp only [Int.pow_one]; omega), n4, hu]; simp
  have hlo : ∀ k : Nat, 0 < k → (x.toInt / 2 ^ k : Int) = (x.toInt / 2 ^ k : Int) := fun _ _ => rfl
  have hp : (0 : Int) < 2 ^ e4 := Int.pow_pos (by decide)
  have hq : x.toInt / 2 ^ e4 * 2 ^ e4 ≤ x.toInt := Int.ediv_mul_le _ (by omega)
  have hq2 : x.toInt < (x.toInt / 2 ^ e4 + 1) * 2 ^ e4 := Int.lt_ediv_add_one_mul_self _ hp
  rw [v4] at hq hq2
  by_cases c1 : (own_nlz_j73_l0 x).toInt = 1
  · rw [c1] at hq hq2
    refine ⟨e4, ?_, by rw [hres, c1]; omega, by omega, by rw [Int.pow_succ]; omega⟩
    omega
  · refine ⟨e4 + 1, ?_, by rw [hres]; omega, ?_, ?_⟩
    · have h2 : (2 : Int) * 2 ^ e4 ≤ (own_nlz_j73_l0 x).toInt * 2 ^ e4 := Int.mul_le_mul_of_nonneg_right (by omega) (by omega)
      rcases Nat.lt_or_ge e4 30 with q | q
      · omega
      · have := own_pw q
        have : (2 : Int) ^ 30 = 1073741824 := by decide
        omega
    · rw [Int.pow_succ]
      have : (2 : Int) * 2 ^ e4 ≤ (own_nlz_j73_l0 x).toInt * 2 ^ e4 := Int.mul_le_mul_of_nonneg_right (by omega) (by omega)
      omega
    · rw [Int.pow_succ, Int.pow_succ]
      have : ((own_nlz_j73_l0 x).toInt + 1) * 2 ^ e4 ≤ 4 * 2 ^ e4 := Int.mul_le_mul_of_nonneg_right (by omega) (by omega)
      omega
theorem own_nlz_neg (x : Int32) (hx : x.toInt < 0) : own_nlz x = 0 := by
  unfold own_nlz
  rw [if_neg (by rw [Int32.lt_iff_toInt_lt]; show ¬ (0 : Int) < x.toInt; omega), if_neg (fun h => by rw [h] at hx; exact absurd hx (by decide))]
theorem own_nlzl_spec (v : Int64) (hv : 0 < v.toInt) : ∃ e : Nat, e < 63 ∧ (own_nlzl v).toInt = 63 - e ∧ 2 ^ e ≤ v.toInt ∧ v.toInt < 2 ^ (e + 1) := by
  have r := own_rngL v
  have hu := own_ushrL (x := v) (y := 32) 32 (by decide) (by decide) (by omega)
  have hi : (XT.ushrL v 32).toInt32.toInt = v.toInt / 4294967296 := by rw [own_l2i (by rw [hu]; omega), hu]; rfl
  unfold own_nlzl
  by_cases h : (XT.ushrL v 32).toInt32 = 0
  · rw [if_pos h]
    have h0 : v.toInt / 4294967296 = 0 := by rw [← hi, h]; rfl
    have h32 : (32 : Int32).toInt = 32 := rfl
    by_cases hs : v.toInt < 2147483648
    · have hl : v.toInt32.toInt = v.toInt := own_l2i (by omega)
      obtain ⟨e, e1, e2, e3, e4⟩ := own_nlz_spec v.toInt32 (by rw [hl]; exact hv)
      rw [hl] at e3 e4
      exact ⟨e, by omega, by rw [own_addI (by rw [e2, h32]; omega), e2, h32]; omega, e3, e4⟩
    · have hl : v.toInt32.toInt < 0 := by
        rw [Int64.toInt_toInt32, Int.bmod_def]; omega
      rw [own_nlz_neg _ hl]
      refine ⟨31, by omega, by decide, by omega, by omega⟩
  · rw [if_neg h]
    have hp : 0 < (XT.ushrL v 32).toInt32.toInt := by
      rcases Int.lt_or_eq_of_le (show 0 ≤ (XT.ushrL v 32).toInt32.toInt by rw [hi]; omega) with q | q
      · exact q
      · exact absurd (Int32.toInt_inj.mp (q.symm.trans rfl)) h
    obtain ⟨e, e1, e2, e3, e4⟩ := own_nlz_spec _ hp
    rw [hi] at e3 e4
    have hpe : (0 : Int) < 2 ^ e := Int.pow_pos (by decide)
    refine ⟨e + 32, by omega, by rw [e2]; omega, ?_, ?_⟩
    · rw [Int.pow_add]; omega
    · rw [show e + 32 + 1 = (e + 1) + 32 from by omega, Int.pow_add]; omega
/-- the top bit's place is one -/
theorem own_top1 {X : Int} {a b : Nat} (h1 : 2 ^ a ≤ X) (h2 : X < 2 ^ (a + 1)) (h3 : 2 ^ b ≤ X) (h4 : X < 2 ^ (b + 1)) : a = b := by
  have lt : ∀ {m n : Nat}, (2 : Int) ^ m < 2 ^ n → m < n := fun {m n} h => by
    rcases Nat.lt_or_ge m n with q | q
    · exact q
    · have : (2 : Int) ^ n ≤ 2 ^ m := by
        have := Nat.pow_le_pow_right (n := 2) (by decide) q
        exact_mod_cast this
      omega
  have := lt (Int.lt_of_le_of_lt h1 h4)
  have := lt (Int.lt_of_le_of_lt h3 h2)
  omega
/-- a value's bucket, as naturals: below 2048 itself; else by the top bit e -/
theorem own_bkt_lo (v : Int64) (h0 : 0 ≤ v.toInt) (h : v.toInt < 2048) : (own_bkt v).toInt = v.toInt := by
  unfold own_bkt own_bkt_j39_l2
  rw [if_pos (by rw [Int64.lt_iff_toInt_lt]; exact h), own_l2i (by omega)]
theorem own_q10 {V : Int} {e : Nat} (he : 10 ≤ e) (h1 : 2 ^ e ≤ V) (h2 : V < 2 ^ (e + 1)) : 1024 ≤ V / 2 ^ (e - 10) ∧ V / 2 ^ (e - 10) < 2048 := by
  have hp : (0 : Int) < 2 ^ (e - 10) := Int.pow_pos (by decide)
  have e1 : (2 : Int) ^ e = 1024 * 2 ^ (e - 10) := by rw [show e = 10 + (e - 10) from by omega, Int.pow_add]; simp
  have e2 : (2 : Int) ^ (e + 1) = 2048 * 2 ^ (e - 10) := by rw [Int.pow_succ, e1]; omega
  exact ⟨Int.le_ediv_of_mul_le hp (by omega), Int.ediv_lt_of_lt_mul hp (by omega)⟩
theorem own_e11 {V : Int} {e : Nat} (h : 2048 ≤ V) (h2 : V < 2 ^ (e + 1)) : 11 ≤ e := by
  rcases Nat.lt_or_ge e 11 with q | q
  · have : (2 : Int) ^ (e + 1) ≤ 2 ^ 11 := by
      have := Nat.pow_le_pow_right (n := 2) (by decide) (show e + 1 ≤ 11 by omega)
      exact_mod_cast this
    omega
  · exact q
theorem own_bkt_hi (v : Int64) (h : 2048 ≤ v.toInt) : ∃ e : Nat, 11 ≤ e ∧ e < 63 ∧ 2 ^ e ≤ v.toInt ∧ v.toInt < 2 ^ (e + 1) ∧ (own_bkt v).toInt = (e - 10) * 1024 + v.toInt / 2 ^ (e - 10) := by
  obtain ⟨e, e1, e2, e3, e4⟩ := own_nlzl_spec v (by omega)
  have he := own_e11 h e4
  have hq := own_q10 (by omega) e3 e4
  have h63 : (63 : Int32).toInt = 63 := rfl
  have h10 : (10 : Int32).toInt = 10 := rfl
  have h1024 : (1024 : Int32).toInt = 1024 := rfl
  have hx1 : ((63 : Int32) - own_nlzl v).toInt = e := by rw [own_subI (by rw [h63, e2]; omega), h63, e2]; omega
  have hx2 : ((63 : Int32) - own_nlzl v - 10).toInt = ((e - 10 : Nat) : Int) := by rw [own_subI (by rw [hx1, h10]; omega), hx1, h10]; omega
  have hx3 : (((63 : Int32) - own_nlzl v - 10) * 1024).toInt = ((e - 10 : Nat) : Int) * 1024 := by rw [own_mulI (by rw [hx2, h1024]; omega), hx2, h1024]
  have hs := own_ushrL (x := v) (y := (63 : Int32) - own_nlzl v - 10) (e - 10) (by omega) hx2 (by omega)
  have hs2 : (XT.ushrL v ((63 : Int32) - own_nlzl v - 10)).toInt32.toInt = v.toInt / 2 ^ (e - 10) := by rw [own_l2i (by rw [hs]; omega), hs]
  refine ⟨e, he, e1, e3, e4, ?_⟩
  unfold own_bkt own_bkt_j39_l2
  rw [if_neg (by rw [Int64.lt_iff_toInt_lt]; show ¬ v.toInt < 2048; omega), own_addI (by rw [hx3, hs2]; omega), hx3, hs2]
  omega
theorem own_bkt_rng (v : Int64) (h : 0 ≤ v.toInt) : 0 ≤ (own_bkt v).toInt ∧ (own_bkt v).toInt < 55296 := by
  by_cases q : v.toInt < 2048
  · rw [own_bkt_lo v h q]; omega
  · obtain ⟨e, e1, e2, e3, e4, e5⟩ := own_bkt_hi v (by omega)
    have := own_q10 (by omega) e3 e4
    rw [e5]; omega
theorem own_bkt_mono (v w : Int64) (h : 0 ≤ v.toInt) (hvw : v.toInt ≤ w.toInt) : (own_bkt v).toInt ≤ (own_bkt w).toInt := by
  by_cases q : w.toInt < 2048
  · rw [own_bkt_lo v h (by omega), own_bkt_lo w (by omega) q]; exact hvw
  · obtain ⟨e, e1, e2, e3, e4, e5⟩ := own_bkt_hi w (by omega)
    have hw := own_q10 (by omega) e3 e4
    by_cases q2 : v.toInt < 2048
    · rw [own_bkt_lo v h q2, e5]; omega
    · obtain ⟨d, d1, d2, d3, d4, d5⟩ := own_bkt_hi v (by omega)
      have hv := own_q10 (by omega) d3 d4
      rw [e5, d5]
      have hde : d ≤ e := by
        rcases Nat.lt_or_ge e d with c | c
        · have : (2 : Int) ^ (e + 1) ≤ 2 ^ d := by
            have := Nat.pow_le_pow_right (n := 2) (by decide) (show e + 1 ≤ d by omega)
            exact_mod_cast this
          omega
        · exact c
      rcases Nat.lt_or_eq_of_le hde with c | c
      · omega
      · subst c
        have : v.toInt / 2 ^ (d - 10) ≤ w.toInt / 2 ^ (d - 10) := Int.ediv_le_ediv (Int.pow_pos (by decide)) hvw
        omega
/-- the lowest value of a value's bucket -/
theorem own_low_lo (b : Int32) (h : b.toInt < 2048) : (own_low b).toInt = b.toInt := by
  unfold own_low own_low_j40_l1
  rw [if_pos (by rw [Int32.lt_iff_toInt_lt]; exact h), own_i2l]
theorem own_low_hi (b : Int32) (k : Nat) (t : Int) (hk1 : 1 ≤ k) (hk : k ≤ 52) (ht : 1024 ≤ t) (ht2 : t < 2048) (hb : b.toInt = k * 1024 + t) : (own_low b).toInt = t * 2 ^ k := by
  have h10 : (10 : Int32).toInt = 10 := rfl
  have h1 : (1 : Int32).toInt = 1 := rfl
  have h1024 : (1024 : Int32).toInt = 1024 := rfl
  have hd : (b / 1024).toInt = k + 1 := by rw [own_divI (by omega) (by rw [h1024]; omega), h1024, hb]; omega
  have hm : (b / 1024 * 1024).toInt = (k + 1) * 1024 := by rw [own_mulI (by rw [hd, h1024]; omega), hd, h1024]
  have hr : (b - b / 1024 * 1024).toInt = t - 1024 := by rw [own_subI (by rw [hm, hb]; omega), hm, hb]; omega
  have ha : (b - b / 1024 * 1024 + 1024).toInt = t := by rw [own_addI (by rw [hr, h1024]; omega), hr, h1024]; omega
  have hs1 : (b / 1024 + 10).toInt = k + 11 := by rw [own_addI (by rw [hd, h10]; omega), hd, h10]; omega
  have hs2 : (b / 1024 + 10 - 1).toInt = k + 10 := by rw [own_subI (by rw [hs1, h1]; omega), hs1, h1]; omega
  have hs3 : (b / 1024 + 10 - 1 - 10).toInt = k := by rw [own_subI (by rw [hs2, h10]; omega), hs2, h10]; omega
  have hp : (2 : Int) ^ k ≤ 2 ^ 52 := by
    have := Nat.pow_le_pow_right (n := 2) (by decide) hk
    exact_mod_cast this
  have hp0 : (0 : Int) < 2 ^ k := Int.pow_pos (by decide)
  have hbd : t * 2 ^ k < 9223372036854775808 := by
    have h1 : t * 2 ^ k ≤ 2047 * 2 ^ k := Int.mul_le_mul_of_nonneg_right (by omega) (by omega)
    have : (2 : Int) ^ 52 = 4503599627370496 := by decide
    omega
  unfold own_low own_low_j40_l1
  rw [if_neg (by rw [Int32.lt_iff_toInt_lt]; show ¬ b.toInt < 2048; omega), own_shlL k (by omega) hs3 (by rw [own_i2l, ha]; omega) (by rw [own_i2l, ha]; exact hbd), own_i2l, ha]
/-- lowestOf(bucketOf v): v itself below 2048, else its top eleven bits -/
theorem own_lowbkt_lo (v : Int64) (h0 : 0 ≤ v.toInt) (h : v.toInt < 2048) : own_low (own_bkt v) = v := by
  apply Int64.toInt_inj.mp
  have := own_bkt_lo v h0 h
  rw [own_low_lo _ (by omega), this]
theorem own_lowbkt_hi (v : Int64) (e : Nat) (h : 2048 ≤ v.toInt) (h1 : 2 ^ e ≤ v.toInt) (h2 : v.toInt < 2 ^ (e + 1)) : (own_low (own_bkt v)).toInt = v.toInt / 2 ^ (e - 10) * 2 ^ (e - 10) := by
  obtain ⟨d, d1, d2, d3, d4, d5⟩ := own_bkt_hi v h
  obtain rfl := own_top1 h1 h2 d3 d4
  have := own_q10 (by omega) d3 d4
  exact own_low_hi _ (e - 10) _ (by omega) (by omega) this.1 this.2 (by rw [d5]; omega)
theorem own_bkt_nn {v : Int64} (h : 0 ≤ v.toInt) : ¬ own_bkt v < 0 := by
  rw [Int32.lt_iff_toInt_lt]; have := own_bkt_rng v h; show ¬ (own_bkt v).toInt < 0; omega
theorem own_bkt_lt {v : Int64} (h : 0 ≤ v.toInt) : (own_bkt v).toNatClampNeg < 55296 := by
  have := own_bkt_rng v h; show (own_bkt v).toInt.toNat < 55296; omega
theorem own_bktN {v : Int64} (h : 0 ≤ v.toInt) : ((own_bkt v).toNatClampNeg : Int) = (own_bkt v).toInt := by
  have := own_bkt_rng v h; show (((own_bkt v).toInt.toNat : Nat) : Int) = _; omega
theorem own_kb {v : Int64} (h : 0 ≤ v.toInt) : own_bkt v = Int32.ofNat (own_bkt v).toNatClampNeg := by
  apply Int32.toInt_inj.mp
  rw [own_ixI (by have := own_bkt_lt h; omega), own_bktN h]
theorem own_S1 (x j : Nat) : own_S [x] j = if x ≤ j then 1 else 0 := by
  unfold own_S
  by_cases h : x ≤ j <;> simp [h] <;> rfl
theorem own_S2 (x y j : Nat) : own_S [x, y] j = if x ≤ j then (if y ≤ j then 2 else 1) else (if y ≤ j then 1 else 0) := by
  unfold own_S
  by_cases h : x ≤ j <;> by_cases h2 : y ≤ j <;> simp [h, h2] <;> rfl
theorem own_lo1 (b : Nat) : ∀ j, j < b → own_S [b] j < 1 := fun j h => by rw [own_S1, if_neg (by omega)]; decide
theorem own_hi1 (b : Nat) : ¬ own_S [b] b < 1 := by rw [own_S1, if_pos (Nat.le_refl _)]; decide
theorem own_minI (a b : Int64) : (own_min a b = a ∨ own_min a b = b) ∧ (own_min a b).toInt ≤ a.toInt ∧ (own_min a b).toInt ≤ b.toInt := by
  unfold own_min
  by_cases h : b < a
  · rw [if_pos h]; rw [Int64.lt_iff_toInt_lt] at h; exact ⟨Or.inr rfl, by omega, by omega⟩
  · rw [if_neg h]; rw [Int64.lt_iff_toInt_lt] at h; exact ⟨Or.inl rfl, by omega, by omega⟩
theorem own_maxI (a b : Int64) : (own_max a b = a ∨ own_max a b = b) ∧ a.toInt ≤ (own_max a b).toInt ∧ b.toInt ≤ (own_max a b).toInt := by
  unfold own_max
  by_cases h : a < b
  · rw [if_pos h]; rw [Int64.lt_iff_toInt_lt] at h; exact ⟨Or.inr rfl, by omega, by omega⟩
  · rw [if_neg h]; rw [Int64.lt_iff_toInt_lt] at h; exact ⟨Or.inl rfl, by omega, by omega⟩
theorem own_nnmin {a b : Int64} (ha : 0 ≤ a.toInt) (hb : 0 ≤ b.toInt) : 0 ≤ (own_min a b).toInt := by
  rcases (own_minI a b).1 with h | h <;> rw [h] <;> assumption
theorem own_nnmax {a b : Int64} (ha : 0 ≤ a.toInt) (hb : 0 ≤ b.toInt) : 0 ≤ (own_max a b).toInt := by
  rcases (own_maxI a b).1 with h | h <;> rw [h] <;> assumption
theorem own_Kmin {a b : Int64} (ha : 0 ≤ a.toInt) (hb : 0 ≤ b.toInt) : (own_bkt (own_min a b)).toNatClampNeg ≤ (own_bkt a).toNatClampNeg ∧ (own_bkt (own_min a b)).toNatClampNeg ≤ (own_bkt b).toNatClampNeg ∧ ((own_bkt (own_min a b)).toNatClampNeg = (own_bkt a).toNatClampNeg ∨ (own_bkt (own_min a b)).toNatClampNeg = (own_bkt b).toNatClampNeg) := by
  have hm := own_nnmin ha hb
  have h1 := own_bkt_mono _ _ hm (own_minI a b).2.1
  have h2 := own_bkt_mono _ _ hm (own_minI a b).2.2
  have := own_bktN ha
  have := own_bktN hb
  have := own_bktN hm
  refine ⟨by omega, by omega, ?_⟩
  rcases (own_minI a b).1 with h | h <;> rw [h]
  · exact Or.inl rfl
  · exact Or.inr rfl
theorem own_Kmax {a b : Int64} (ha : 0 ≤ a.toInt) (hb : 0 ≤ b.toInt) : (own_bkt a).toNatClampNeg ≤ (own_bkt (own_max a b)).toNatClampNeg ∧ (own_bkt b).toNatClampNeg ≤ (own_bkt (own_max a b)).toNatClampNeg ∧ ((own_bkt (own_max a b)).toNatClampNeg = (own_bkt a).toNatClampNeg ∨ (own_bkt (own_max a b)).toNatClampNeg = (own_bkt b).toNatClampNeg) := by
  have hm := own_nnmax ha hb
  have h1 := own_bkt_mono _ _ ha (own_maxI a b).2.1
  have h2 := own_bkt_mono _ _ hb (own_maxI a b).2.2
  have := own_bktN ha
  have := own_bktN hb
  have := own_bktN hm
  refine ⟨by omega, by omega, ?_⟩
  rcases (own_maxI a b).1 with h | h <;> rw [h]
  · exact Or.inl rfl
  · exact Or.inr rfl
theorem own_lo2 {a b : Int64} (ha : 0 ≤ a.toInt) (hb : 0 ≤ b.toInt) : ∀ j, j < (own_bkt (own_min a b)).toNatClampNeg → own_S [(own_bkt b).toNatClampNeg, (own_bkt a).toNatClampNeg] j < 1 := fun j h => by
  obtain ⟨h1, h2, -⟩ := own_Kmin ha hb
  rw [own_S2, if_neg (by omega), if_neg (by omega)]; decide
theorem own_hi2 {a b : Int64} (ha : 0 ≤ a.toInt) (hb : 0 ≤ b.toInt) : ¬ own_S [(own_bkt b).toNatClampNeg, (own_bkt a).toNatClampNeg] (own_bkt (own_min a b)).toNatClampNeg < 1 := by
  obtain ⟨h1, h2, h3⟩ := own_Kmin ha hb
  rw [own_S2]
  rcases h3 with h | h
  · by_cases q : (own_bkt b).toNatClampNeg ≤ (own_bkt (own_min a b)).toNatClampNeg
    · rw [if_pos q, if_pos (by omega)]; decide
    · rw [if_neg q, if_pos (by omega)]; decide
  · rw [if_pos (by omega)]
    by_cases q : (own_bkt a).toNatClampNeg ≤ (own_bkt (own_min a b)).toNatClampNeg
    · rw [if_pos q]; decide
    · rw [if_neg q]; decide
theorem own_lo3 {a b : Int64} (ha : 0 ≤ a.toInt) (hb : 0 ≤ b.toInt) : ∀ j, j < (own_bkt (own_max a b)).toNatClampNeg → own_S [(own_bkt b).toNatClampNeg, (own_bkt a).toNatClampNeg] j < 2 := fun j h => by
  obtain ⟨h1, h2, h3⟩ := own_Kmax ha hb
  rw [own_S2]
  rcases h3 with q | q
  · rw [if_neg (show ¬ (own_bkt a).toNatClampNeg ≤ j by omega), if_neg (show ¬ (own_bkt a).toNatClampNeg ≤ j by omega)]
    by_cases w : (own_bkt b).toNatClampNeg ≤ j
    · rw [if_pos w]; decide
    · rw [if_neg w]; decide
  · rw [if_neg (show ¬ (own_bkt b).toNatClampNeg ≤ j by omega)]
    by_cases w : (own_bkt a).toNatClampNeg ≤ j
    · rw [if_pos w]; decide
    · rw [if_neg w]; decide
theorem own_hi3 {a b : Int64} (ha : 0 ≤ a.toInt) (hb : 0 ≤ b.toInt) : ¬ own_S [(own_bkt b).toNatClampNeg, (own_bkt a).toNatClampNeg] (own_bkt (own_max a b)).toNatClampNeg < 2 := by
  obtain ⟨h1, h2, -⟩ := own_Kmax ha hb
  rw [own_S2, if_pos h2, if_pos h1]; decide
theorem own_shift_rng (k : Int32) : 0 ≤ (own_shift k).toInt ∧ (own_shift k).toInt ≤ 52 := by
  have h1 : (k &&& (2147483647 : Int32)).toInt = k.toInt % (2 ^ 31 : Nat) := c_mask k _ 31 (by decide) (by decide)
  have h0 : 0 ≤ (k &&& (2147483647 : Int32)).toInt := by rw [h1]; omega
  have r := own_rngI (k &&& (2147483647 : Int32))
  unfold own_shift
  generalize (k &&& (2147483647 : Int32)) = x at *
  have h53 : (53 : Int32).toInt = 53 := rfl
  have hd : (x / 53).toInt = x.toInt / 53 := by rw [own_divI h0 (by rw [h53]; omega), h53]
  have hm : (x / 53 * 53).toInt = x.toInt / 53 * 53 := by rw [own_mulI (by rw [hd, h53]; omega), hd, h53]
  rw [own_subI (by rw [hm]; omega), hm]; omega
theorem own_orL {a b : Int64} (k : Nat) (hk : k ≤ 63) (ha : a.toInt % 2 ^ k = 0) (h0 : 0 ≤ a.toInt) (hb : 0 ≤ b.toInt) (hb2 : b.toInt < 2 ^ k) (hs : a.toInt + b.toInt < 9223372036854775808) : (a ||| b).toInt = a.toInt + b.toInt := by
  have hP : ((2 ^ k : Nat) : Int) = 2 ^ k := by simp
  have h := c_orL a b k hk (2 ^ k) hP.symm ha hb hb2
  have r := own_rngL (a ||| b)
  omega
theorem own_t (a : Int64) : ((1024 : Int64) ||| (a &&& (1023 : Int64))).toInt = 1024 + a.toInt % 1024 := by
  have h1 : (a &&& (1023 : Int64)).toInt = a.toInt % (2 ^ 10 : Nat) := c_maskL a _ 10 (by decide) (by decide)
  have hk : (1024 : Int64).toInt = 1024 := rfl
  rw [own_orL 10 (by decide) (by rw [hk]; decide) (by rw [hk]; omega) (by rw [h1]; omega) (by rw [h1]; omega) (by rw [hk, h1]; omega), hk, h1]; rfl
theorem own_val_is (a : Int64) (kk : Int32) : 0 ≤ (own_val a kk).toInt ∧ own_low (own_bkt (own_val a kk)) = own_lws a kk := by
  have hr := own_shift_rng kk
  unfold own_val own_lws
  generalize own_shift kk = y at *
  by_cases h : y = 0
  · rw [if_pos h, if_pos h]
    have h1 : (a &&& (2047 : Int64)).toInt = a.toInt % (2 ^ 11 : Nat) := c_maskL a _ 11 (by decide) (by decide)
    exact ⟨by rw [h1]; omega, own_lowbkt_lo _ (by rw [h1]; omega) (by rw [h1]; omega)⟩
  · rw [if_neg h, if_neg h]
    have hy0 : y.toInt ≠ 0 := fun q => h (Int32.toInt_inj.mp (q.trans rfl))
    obtain ⟨k, hk⟩ : ∃ k : Nat, y.toInt = k := ⟨y.toInt.toNat, by omega⟩
    have hp : (2 : Int) ^ k ≤ 2 ^ 52 := own_pw (by omega)
    have h52 : (2 : Int) ^ 52 = 4503599627370496 := by decide
    have hp0 : (0 : Int) < 2 ^ k := Int.pow_pos (by decide)
    have hp2 : (2 : Int) ≤ 2 ^ k := by have := own_pw (show 1 ≤ k by omega); simpa using this
    have ht := own_t a
    generalize ((1024 : Int64) ||| (a &&& (1023 : Int64))) = t at *
    have hT1 : 1024 ≤ t.toInt := by omega
    have hT2 : t.toInt ≤ 2047 := by omega
    have hmul : t.toInt * 2 ^ k ≤ 2047 * 2 ^ k := Int.mul_le_mul_of_nonneg_right hT2 (by omega)
    have hmul2 : 1024 * 2 ^ k ≤ t.toInt * 2 ^ k := Int.mul_le_mul_of_nonneg_right hT1 (by omega)
    have hhi := own_shlL (x := t) (y := y) k (by omega) hk (by omega) (by omega)
    have hone : (1 : Int64).toInt = 1 := rfl
    have h1k := own_shlL (x := 1) (y := y) k (by omega) hk (by rw [hone]; omega) (by rw [hone]; omega)
    rw [hone, Int.one_mul] at h1k
    have hm1 : ((1 : Int64) <<< (y.toInt64 &&& 63) - 1).toInt = 2 ^ k - 1 := by rw [own_subL (by rw [h1k, hone]; omega), h1k, hone]
    have hmn : ((1 : Int64) <<< (y.toInt64 &&& 63) - 1).toBitVec.toNat = 2 ^ k - 1 := by
      have := own_natL (x := (1 : Int64) <<< (y.toInt64 &&& 63) - 1) (by rw [hm1]; omega)
      rw [hm1] at this
      have hP : ((2 ^ k : Nat) : Int) = 2 ^ k := by simp
      omega
    have hlo := c_maskL (XT.ushrL a 11) _ k (by omega) hmn
    have hP : ((2 ^ k : Nat) : Int) = 2 ^ k := by simp
    rw [hP] at hlo
    generalize hL : (XT.ushrL a 11 &&& ((1 : Int64) <<< (y.toInt64 &&& 63) - 1)) = w at *
    generalize hH : (t <<< (y.toInt64 &&& 63)) = u at *
    have hl0 : 0 ≤ w.toInt := by rw [hlo]; exact Int.emod_nonneg _ (by omega)
    have hl1 : w.toInt < 2 ^ k := by rw [hlo]; exact Int.emod_lt_of_pos _ hp0
    have hv : (u ||| w).toInt = t.toInt * 2 ^ k + w.toInt := by
      rw [own_orL k (by omega) (by rw [hhi]; exact Int.mul_emod_left _ _) (by omega) hl0 hl1 (by rw [hhi]; omega), hhi]
    have e1 : (2 : Int) ^ (k + 10) = 1024 * 2 ^ k := by rw [Int.pow_add]; omega
    have e2 : (2 : Int) ^ (k + 10 + 1) = 2048 * 2 ^ k := by rw [Int.pow_succ, e1]; omega
    refine ⟨by rw [hv]; omega, ?_⟩
    apply Int64.toInt_inj.mp
    rw [own_lowbkt_hi _ (k + 10) (by rw [hv]; omega) (by rw [hv, e1]; omega) (by rw [hv, e2]; omega), show k + 10 - 10 = k from by omega, hv, hhi]
    have : (t.toInt * 2 ^ k + w.toInt) / 2 ^ k = t.toInt := by
      rw [Int.mul_comm, Int.add_comm, Int.add_mul_ediv_left _ _ (by omega), Int.ediv_eq_zero_of_lt hl0 hl1]; omega
    rw [this]
theorem own_nnval (a : Int64) (k : Int32) : 0 ≤ (own_val a k).toInt := (own_val_is a k).1
/-- the bucket's lowest value grows with the value -/
theorem own_lb_mono (v w : Int64) (h : 0 ≤ v.toInt) (hvw : v.toInt ≤ w.toInt) : (own_low (own_bkt v)).toInt ≤ (own_low (own_bkt w)).toInt := by
  have lowle : ∀ (x : Int64) (e : Nat), 2048 ≤ x.toInt → 2 ^ e ≤ x.toInt → x.toInt < 2 ^ (e + 1) → 2 ^ e ≤ (own_low (own_bkt x)).toInt ∧ (own_low (own_bkt x)).toInt ≤ x.toInt := fun x e h0 h1 h2 => by
    have he := own_e11 h0 h2
    have hp : (0 : Int) < 2 ^ (e - 10) := Int.pow_pos (by decide)
    rw [own_lowbkt_hi x e h0 h1 h2]
    have hq := own_q10 (by omega) h1 h2
    have e1 : (2 : Int) ^ e = 1024 * 2 ^ (e - 10) := by rw [show e = 10 + (e - 10) from by omega, Int.pow_add]; simp
    have : 1024 * 2 ^ (e - 10) ≤ x.toInt / 2 ^ (e - 10) * 2 ^ (e - 10) := Int.mul_le_mul_of_nonneg_right hq.1 (by omega)
    exact ⟨by omega, Int.ediv_mul_le _ (by omega)⟩
  by_cases q : w.toInt < 2048
  · rw [own_lowbkt_lo v h (by omega), own_lowbkt_lo w (by omega) q]; exact hvw
  · obtain ⟨e, e1, e2, e3, e4, -⟩ := own_bkt_hi w (by omega)
    have hw := lowle w e (by omega) e3 e4
    have h11a := own_pw e1
    have h11b : (2 : Int) ^ 11 = 2048 := by decide
    have h11 : (2048 : Int) ≤ 2 ^ e := by omega
    by_cases q2 : v.toInt < 2048
    · rw [own_lowbkt_lo v h q2]; omega
    · obtain ⟨d, d1, d2, d3, d4, -⟩ := own_bkt_hi v (by omega)
      have hv := lowle v d (by omega) d3 d4
      rcases Nat.lt_or_ge d e with c | c
      · have := own_pw (show d + 1 ≤ e by omega); omega
      · have hde : d = e := by
          rcases Nat.lt_or_eq_of_le c with c2 | c2
          · have := own_pw (show e + 1 ≤ d by omega); omega
          · exact c2.symm
        subst hde
        rw [own_lowbkt_hi v d (by omega) d3 d4, own_lowbkt_hi w d (by omega) e3 e4]
        have hp : (0 : Int) < 2 ^ (d - 10) := Int.pow_pos (by decide)
        exact Int.mul_le_mul_of_nonneg_right (Int.ediv_le_ediv hp hvw) (by omega)
theorem own_f_min (v w : Int64) (hv : 0 ≤ v.toInt) (hw : 0 ≤ w.toInt) : own_low (own_bkt (own_min v w)) = own_min (own_low (own_bkt v)) (own_low (own_bkt w)) := by
  unfold own_min
  by_cases h : w < v
  · rw [if_pos h]; rw [Int64.lt_iff_toInt_lt] at h
    have := own_lb_mono w v hw (by omega)
    by_cases q : own_low (own_bkt w) < own_low (own_bkt v)
    · rw [if_pos q]
    · rw [if_neg q]; rw [Int64.lt_iff_toInt_lt] at q; exact Int64.toInt_inj.mp (by omega)
  · rw [if_neg h]; rw [Int64.lt_iff_toInt_lt] at h
    have := own_lb_mono v w hv (by omega)
    rw [if_neg (by rw [Int64.lt_iff_toInt_lt]; omega)]
theorem own_f_max (v w : Int64) (hv : 0 ≤ v.toInt) (hw : 0 ≤ w.toInt) : own_low (own_bkt (own_max v w)) = own_max (own_low (own_bkt v)) (own_low (own_bkt w)) := by
  unfold own_max
  by_cases h : v < w
  · rw [if_pos h]; rw [Int64.lt_iff_toInt_lt] at h
    have := own_lb_mono v w hv (by omega)
    by_cases q : own_low (own_bkt v) < own_low (own_bkt w)
    · rw [if_pos q]
    · rw [if_neg q]; rw [Int64.lt_iff_toInt_lt] at q; exact Int64.toInt_inj.mp (by omega)
  · rw [if_neg h]; rw [Int64.lt_iff_toInt_lt] at h
    have := own_lb_mono w v hw (by omega)
    rw [if_neg (by rw [Int64.lt_iff_toInt_lt]; omega)]
/-- the rank: ceil(p * n / 100) -/
theorem own_p_rng (x : Int32) : 1 ≤ ((1 : Int32) + ((x &&& (2147483647 : Int32)) - ((x &&& (2147483647 : Int32)) / (100 : Int32)) * (100 : Int32))).toInt ∧ ((1 : Int32) + ((x &&& (2147483647 : Int32)) - ((x &&& (2147483647 : Int32)) / (100 : Int32)) * (100 : Int32))).toInt ≤ 100 := by
  have h1 : (x &&& (2147483647 : Int32)).toInt = x.toInt % (2 ^ 31 : Nat) := c_mask x _ 31 (by decide) (by decide)
  have h0 : 0 ≤ (x &&& (2147483647 : Int32)).toInt := by rw [h1]; omega
  have r := own_rngI (x &&& (2147483647 : Int32))
  generalize (x &&& (2147483647 : Int32)) = x at *
  have h53 : (100 : Int32).toInt = 100 := rfl
  have h11 : (1 : Int32).toInt = 1 := rfl
  have hd : (x / 100).toInt = x.toInt / 100 := by rw [own_divI h0 (by rw [h53]; omega), h53]
  have hm : (x / 100 * 100).toInt = x.toInt / 100 * 100 := by rw [own_mulI (by rw [hd, h53]; omega), hd, h53]
  have hs : (x - x / 100 * 100).toInt = x.toInt - x.toInt / 100 * 100 := by rw [own_subI (by rw [hm]; omega), hm]
  rw [own_addI (by rw [h11, hs]; omega), h11, hs]; omega
theorem own_rank (p : Int32) (n r : Nat) (hp : 1 ≤ p.toInt ∧ p.toInt ≤ 100) (hn : n ≤ 3) (hr : (p.toInt * n + 99) / 100 = r) (hr3 : r ≤ 3) : (p.toInt64 * Int64.ofNat n + 99) / 100 = Int64.ofNat r := by
  have hN : (Int64.ofNat n).toInt = n := by rw [Int64.toInt_ofNat_of_lt]; omega
  have hR : (Int64.ofNat r).toInt = r := by rw [Int64.toInt_ofNat_of_lt]; omega
  have h99 : (99 : Int64).toInt = 99 := rfl
  have h100 : (100 : Int64).toInt = 100 := rfl
  have hb : 0 ≤ p.toInt * n ∧ p.toInt * n ≤ 300 := by
    have h1 : p.toInt * n ≤ 100 * n := Int.mul_le_mul_of_nonneg_right hp.2 (by omega)
    have h2 : 0 ≤ p.toInt * n := Int.mul_nonneg (by omega) (by omega)
    omega
  have hm : (p.toInt64 * Int64.ofNat n).toInt = p.toInt * n := by rw [own_mulL (by rw [own_i2l, hN]; omega), own_i2l, hN]
  have ha : (p.toInt64 * Int64.ofNat n + 99).toInt = p.toInt * n + 99 := by rw [own_addL (by rw [hm, h99]; omega), hm, h99]
  apply Int64.toInt_inj.mp
  rw [own_divL (by rw [ha]; omega) (by rw [h100]; omega), ha, h100, hr, hR]
/-- how many of the buckets are at most j -/
theorem own_Sc (bs : List Nat) (hl : bs.length ≤ 3) (j : Nat) : (own_S bs j).toInt = bs.countP (fun b => decide (b ≤ j)) := by
  unfold own_S
  have := List.countP_le_length (p := fun b => decide (b ≤ j)) (l := bs)
  rw [Int64.toInt_ofNat_of_lt]; omega
theorem own_Slo {bs : List Nat} {K r : Nat} (hl : bs.length ≤ 3) (hr : r ≤ 3) (h : ∀ j, j < K → bs.countP (fun b => decide (b ≤ j)) < r) : ∀ j, j < K → own_S bs j < Int64.ofNat r := fun j hj => by
  have := h j hj
  rw [Int64.lt_iff_toInt_lt, own_Sc bs hl, Int64.toInt_ofNat_of_lt (by omega)]; omega
theorem own_Shi {bs : List Nat} {K r : Nat} (hl : bs.length ≤ 3) (hr : r ≤ 3) (h : r ≤ bs.countP (fun b => decide (b ≤ K))) : ¬ own_S bs K < Int64.ofNat r := by
  rw [Int64.lt_iff_toInt_lt, own_Sc bs hl, Int64.toInt_ofNat_of_lt (by omega)]; omega
theorem own_n1 (x j : Nat) : [x].countP (fun b => decide (b ≤ j)) = (if x ≤ j then 1 else 0) := by simp [List.countP_cons]
theorem own_n2 (x y j : Nat) : [x, y].countP (fun b => decide (b ≤ j)) = (if y ≤ j then 1 else 0) + (if x ≤ j then 1 else 0) := by simp [List.countP_cons]
theorem own_n3 (x y z j : Nat) : [x, y, z].countP (fun b => decide (b ≤ j)) = (if z ≤ j then 1 else 0) + (if y ≤ j then 1 else 0) + (if x ≤ j then 1 else 0) := by simp [List.countP_cons]
theorem pn_0 : plainFor (⟨"com/example/topsail/topsail/cli/LatencyHistogramPercentilePinLaw", "law", "(JIJIII)Z"⟩ : MethodName) = true := by first | exact plainFor_of_name (by first | (simp [plainName, overriddenIn]; done) | decide +kernel) | decide +kernel
theorem pd_7 : parseMethodDescriptor "(JIJIII)Z" = some ⟨[.long, .int, .long, .int, .int, .int], (some .boolean)⟩ := by decide +kernel
def own_law (q0 : Int64) (q1 : Int32) (q2 : Int64) (q3 : Int32) (q4 : Int32) (q5 : Int32) : Int32 := if (q5 &&& (3 : Int32)) = (3 : Int32) then (if (own_low (own_bkt (own_val q0 q1))) = (own_lws q0 q1) then (1 : Int32) else (0 : Int32)) else if (q5 &&& (3 : Int32)) = 0 then (if (50 : Int32) < ((1 : Int32) + ((q4 &&& (2147483647 : Int32)) - ((q4 &&& (2147483647 : Int32)) / (100 : Int32)) * (100 : Int32))) then (if (own_low (own_bkt (own_max (own_val q0 q1) (own_val q2 q3)))) = (own_max (own_lws q0 q1) (own_lws q2 q3)) then (1 : Int32) else (0 : Int32)) else if (own_low (own_bkt (own_min (own_val q0 q1) (own_val q2 q3)))) = (own_min (own_lws q0 q1) (own_lws q2 q3)) then (1 : Int32) else (0 : Int32)) else if (q5 &&& (3 : Int32)) = (1 : Int32) then (if (33 : Int32) < ((1 : Int32) + ((q4 &&& (2147483647 : Int32)) - ((q4 &&& (2147483647 : Int32)) / (100 : Int32)) * (100 : Int32))) then (if (66 : Int32) < ((1 : Int32) + ((q4 &&& (2147483647 : Int32)) - ((q4 &&& (2147483647 : Int32)) / (100 : Int32)) * (100 : Int32))) then (if (own_low (own_bkt (own_max (own_val q0 q1) (own_val q2 q3)))) = (own_max (own_lws q0 q1) (own_lws q2 q3)) then (1 : Int32) else (0 : Int32)) else if (own_low (own_bkt (own_val q0 q1))) = (own_lws q0 q1) then (1 : Int32) else (0 : Int32)) else if (own_low (own_bkt (own_min (own_val q0 q1) (own_val q2 q3)))) = (own_min (own_lws q0 q1) (own_lws q2 q3)) then (1 : Int32) else (0 : Int32)) else if (33 : Int32) < ((1 : Int32) + ((q4 &&& (2147483647 : Int32)) - ((q4 &&& (2147483647 : Int32)) / (100 : Int32)) * (100 : Int32))) then (if (66 : Int32) < ((1 : Int32) + ((q4 &&& (2147483647 : Int32)) - ((q4 &&& (2147483647 : Int32)) / (100 : Int32)) * (100 : Int32))) then (if (own_low (own_bkt (own_max (own_val q0 q1) (own_val q2 q3)))) = (own_max (own_lws q0 q1) (own_lws q2 q3)) then (1 : Int32) else (0 : Int32)) else if (own_low (own_bkt (own_val q2 q3))) = (own_lws q2 q3) then (1 : Int32) else (0 : Int32)) else if (own_low (own_bkt (own_min (own_val q0 q1) (own_val q2 q3)))) = (own_min (own_lws q0 q1) (own_lws q2 q3)) then (1 : Int32) else (0 : Int32)
set_option maxRecDepth 65536 in
set_option maxHeartbeats 40000000 in
theorem rm_law (l : Launch) (Z : State) (a0 : Array Value) (hw : ∀ d ∈ tables_1, d.before a0 Z = true) (q0 : Int64) (q1 : Int32) (q2 : Int64) (q3 : Int32) (q4 : Int32) (q5 : Int32) (h0 : Heap) (n0 : Nat) (Z0 : n0 ≤ h0.size) :
    OwCon l (⟨"com/example/topsail/topsail/cli/LatencyHistogramPercentilePinLaw", "law", "(JIJIII)Z"⟩ : MethodName) code maxLocals ret room_1 Z #[(.long q0), (.int q1), (.long q2), (.int q3), (.int q4), (.int q5)] h0 (fun v h L => v = some (.int (own_law q0 q1 q2 q3 q4 q5)) ∧ Fr n0 L) := by
  refine OwCon.of pn_0 (Ls := #[.val (.long q0), .second, .val (.int q1), .val (.long q2), .second, .val (.int q3), .val (.int q4), .val (.int q5), .unset, .unset, .unset, .unset, .unset, .unset, .unset, .unset, .unset, .unset, .unset, .unset, .unset, .unset, .unset, .unset, .unset, .unset, .unset]) (fun m => by first | (simp [entryFrame, mkF, argsToLocals, Value.category, maxLocals]; done) | rfl) ?_
  intro p e s m below meth c s₁ C X0 e0
  refine ow_iconst (1 : Int32) C X0 at_0 (by decide) (pc' := 1) rfl ?_
  refine ow_iload C X0 at_1 rfl (pc' := 3) rfl ?_
  refine ow_ldc C X0 (hw _ (List.mem_of_getElem? (i := 0) rfl)) at_3 (pc' := 5) rfl ?_
  refine ow_iand C X0 at_5 (pc' := 6) rfl ?_
  refine ow_bipush (100 : Int32) C X0 at_6 (by decide) (pc' := 8) rfl ?_
  refine ow_irem C X0 at_8 (by decide) (pc' := 9) rfl ?_
  refine ow_iadd C X0 at_9 (pc' := 10) rfl ?_
  refine ow_istore C X0 at_10 (Ls' := #[.val (.long q0), .second, .val (.int q1), .val (.long q2), .second, .val (.int q3), .val (.int q4), .val (.int q5), .val (.int ((1 : Int32) + ((q4 &&& (2147483647 : Int32)) - ((q4 &&& (2147483647 : Int32)) / (100 : Int32)) * (100 : Int32)))), .unset, .unset, .unset, .unset, .unset, .unset, .unset, .unset, .unset, .unset, .unset, .unset, .unset, .unset, .unset, .unset, .unset, .unset]) rfl (pc' := 12) rfl ?_
  refine ow_iload C X0 at_12 rfl (pc' := 14) rfl ?_
  refine ow_iconst (3 : Int32) C X0 at_14 (by decide) (pc' := 15) rfl ?_
  refine ow_iand C X0 at_15 (pc' := 16) rfl ?_
  refine ow_istore C X0 at_16 (Ls' := #[.val (.long q0), .second, .val (.int q1), .val (.long q2), .second, .val (.int q3), .val (.int q4), .val (.int q5), .val (.int ((1 : Int32) + ((q4 &&& (2147483647 : Int32)) - ((q4 &&& (2147483647 : Int32)) / (100 : Int32)) * (100 : Int32)))), .val (.int (q5 &&& (3 : Int32))), .unset, .unset, .unset, .unset, .unset, .unset, .unset, .unset, .unset, .unset, .unset, .unset, .unset, .unset, .unset, .unset, .unset]) rfl (pc' := 18) rfl ?_
  refine ow_lloadN C X0 at_18 rfl (pc' := 19) rfl ?_
  refine ow_iloadN C X0 at_19 rfl (pc' := 20) rfl ?_
  refine ow_callSP C X0 e0 (hw _ (List.mem_of_getElem? (i := 1) rfl)) (hw _ (List.mem_of_getElem? (i := 2) rfl)) (hw _ (List.mem_of_getElem? (i := 3) rfl)) (hw _ (List.mem_of_getElem? (i := 4) rfl)) (by decide) (rm_val l Z a0 hw q0 q1 h0) ⟨rfl, rfl⟩ pd_6 rfl (argsL := [(.long q0), (.int q1)]) (rest := []) rfl rfl at_20 (Nat.le_of_ble_eq_true rfl) (Nat.le_of_ble_eq_true rfl) (Nat.le_of_ble_eq_true rfl) (Nat.le_of_ble_eq_true rfl) (pc' := 23) rfl (fun T27 X27 e27 => ?_)
  refine ow_lstore C X27 at_23 (Ls' := #[.val (.long q0), .second, .val (.int q1), .val (.long q2), .second, .val (.int q3), .val (.int q4), .val (.int q5), .val (.int ((1 : Int32) + ((q4 &&& (2147483647 : Int32)) - ((q4 &&& (2147483647 : Int32)) / (100 : Int32)) * (100 : Int32)))), .val (.int (q5 &&& (3 : Int32))), .val (.long (own_val q0 q1)), .second, .unset, .unset, .unset, .unset, .unset, .unset, .unset, .unset, .unset, .unset, .unset, .unset, .unset, .unset, .unset]) rfl (pc' := 25) rfl ?_
  refine ow_lloadN C X27 at_25 rfl (pc' := 26) rfl ?_
  refine ow_iload C X27 at_26 rfl (pc' := 28) rfl ?_
  refine ow_callSP C X27 e27 (hw _ (List.mem_of_getElem? (i := 1) rfl)) (hw _ (List.mem_of_getElem? (i := 2) rfl)) (hw _ (List.mem_of_getElem? (i := 3) rfl)) (hw _ (List.mem_of_getElem? (i := 4) rfl)) (by decide) (rm_val l Z a0 hw q2 q3 h0) ⟨rfl, rfl⟩ pd_6 rfl (argsL := [(.long q2), (.int q3)]) (rest := []) rfl rfl at_28 (Nat.le_of_ble_eq_true rfl) (Nat.le_of_ble_eq_true rfl) (Nat.le_of_ble_eq_true rfl) (Nat.le_of_ble_eq_true rfl) (pc' := 31) rfl (fun T28 X28 e28 => ?_)
  refine ow_lstore C X28 at_31 (Ls' := #[.val (.long q0), .second, .val (.int q1), .val (.long q2), .second, .val (.int q3), .val (.int q4), .val (.int q5), .val (.int ((1 : Int32) + ((q4 &&& (2147483647 : Int32)) - ((q4 &&& (2147483647 : Int32)) / (100 : Int32)) * (100 : Int32)))), .val (.int (q5 &&& (3 : Int32))), .val (.long (own_val q0 q1)), .second, .val (.long (own_val q2 q3)), .second, .unset, .unset, .unset, .unset, .unset, .unset, .unset, .unset, .unset, .unset, .unset, .unset, .unset]) rfl (pc' := 33) rfl ?_
  refine ow_lloadN C X28 at_33 rfl (pc' := 34) rfl ?_
  refine ow_iloadN C X28 at_34 rfl (pc' := 35) rfl ?_
  refine ow_callSP C X28 e28 (hw _ (List.mem_of_getElem? (i := 11) rfl)) (hw _ (List.mem_of_getElem? (i := 12) rfl)) (hw _ (List.mem_of_getElem? (i := 3) rfl)) (hw _ (List.mem_of_getElem? (i := 13) rfl)) (by decide) (rm_lws l Z a0 hw q0 q1 h0) ⟨rfl, rfl⟩ pd_6 rfl (argsL := [(.long q0), (.int q1)]) (rest := []) rfl rfl at_35 (Nat.le_of_ble_eq_true rfl) (Nat.le_of_ble_eq_true rfl) (Nat.le_of_ble_eq_true rfl) (Nat.le_of_ble_eq_true rfl) (pc' := 38) rfl (fun T29 X29 e29 => ?_)
  refine ow_lstore C X29 at_38 (Ls' := #[.val (.long q0), .second, .val (.int q1), .val (.long q2), .second, .val (.int q3), .val (.int q4), .val (.int q5), .val (.int ((1 : Int32) + ((q4 &&& (2147483647 : Int32)) - ((q4 &&& (2147483647 : Int32)) / (100 : Int32)) * (100 : Int32)))), .val (.int (q5 &&& (3 : Int32))), .val (.long (own_val q0 q1)), .second, .val (.long (own_val q2 q3)), .second, .val (.long (own_lws q0 q1)), .second, .unset, .unset, .unset, .unset, .unset, .unset, .unset, .unset, .unset, .unset, .unset]) rfl (pc' := 40) rfl ?_
  refine ow_lloadN C X29 at_40 rfl (pc' := 41) rfl ?_
  refine ow_iload C X29 at_41 rfl (pc' := 43) rfl ?_
  refine ow_callSP C X29 e29 (hw _ (List.mem_of_getElem? (i := 11) rfl)) (hw _ (List.mem_of_getElem? (i := 12) rfl)) (hw _ (List.mem_of_getElem? (i := 3) rfl)) (hw _ (List.mem_of_getElem? (i := 13) rfl)) (by decide) (rm_lws l Z a0 hw q2 q3 h0) ⟨rfl, rfl⟩ pd_6 rfl (argsL := [(.long q2), (.int q3)]) (rest := []) rfl rfl at_43 (Nat.le_of_ble_eq_true rfl) (Nat.le_of_ble_eq_true rfl) (Nat.le_of_ble_eq_true rfl) (Nat.le_of_ble_eq_true rfl) (pc' := 46) rfl (fun T30 X30 e30 => ?_)
  refine ow_lstore C X30 at_46 (Ls' := #[.val (.long q0), .second, .val (.int q1), .val (.long q2), .second, .val (.int q3), .val (.int q4), .val (.int q5), .val (.int ((1 : Int32) + ((q4 &&& (2147483647 : Int32)) - ((q4 &&& (2147483647 : Int32)) / (100 : Int32)) * (100 : Int32)))), .val (.int (q5 &&& (3 : Int32))), .val (.long (own_val q0 q1)), .second, .val (.long (own_val q2 q3)), .second, .val (.long (own_lws q0 q1)), .second, .val (.long (own_lws q2 q3)), .second, .unset, .unset, .unset, .unset, .unset, .unset, .unset, .unset, .unset]) rfl (pc' := 48) rfl ?_
  refine ow_lload C X30 at_48 rfl (pc' := 50) rfl ?_
  refine ow_lload C X30 at_50 rfl (pc' := 52) rfl ?_
  refine ow_callSP C X30 e30 (hw _ (List.mem_of_getElem? (i := 14) rfl)) (hw _ (List.mem_of_getElem? (i := 15) rfl)) (hw _ (List.mem_of_getElem? (i := 16) rfl)) (hw _ (List.mem_of_getElem? (i := 17) rfl)) (by decide) (rm_min l Z a0 hw (own_lws q0 q1) (own_lws q2 q3) h0) ⟨rfl, rfl⟩ pd_3 rfl (argsL := [(.long (own_lws q0 q1)), (.long (own_lws q2 q3))]) (rest := []) rfl rfl at_52 (Nat.le_of_ble_eq_true rfl) (Nat.le_of_ble_eq_true rfl) (Nat.le_of_ble_eq_true rfl) (Nat.le_of_ble_eq_true rfl) (pc' := 55) rfl (fun T31 X31 e31 => ?_)
  refine ow_lstore C X31 at_55 (Ls' := #[.val (.long q0), .second, .val (.int q1), .val (.long q2), .second, .val (.int q3), .val (.int q4), .val (.int q5), .val (.int ((1 : Int32) + ((q4 &&& (2147483647 : Int32)) - ((q4 &&& (2147483647 : Int32)) / (100 : Int32)) * (100 : Int32)))), .val (.int (q5 &&& (3 : Int32))), .val (.long (own_val q0 q1)), .second, .val (.long (own_val q2 q3)), .second, .val (.long (own_lws q0 q1)), .second, .val (.long (own_lws q2 q3)), .second, .val (.long (own_min (own_lws q0 q1) (own_lws q2 q3))), .second, .unset, .unset, .unset, .unset, .unset, .unset, .unset]) rfl (pc' := 57) rfl ?_
  refine ow_lload C X31 at_57 rfl (pc' := 59) rfl ?_
  refine ow_lload C X31 at_59 rfl (pc' := 61) rfl ?_
  refine ow_callSP C X31 e31 (hw _ (List.mem_of_getElem? (i := 18) rfl)) (hw _ (List.mem_of_getElem? (i := 19) rfl)) (hw _ (List.mem_of_getElem? (i := 16) rfl)) (hw _ (List.mem_of_getElem? (i := 20) rfl)) (by decide) (rm_max l Z a0 hw (own_lws q0 q1) (own_lws q2 q3) h0) ⟨rfl, rfl⟩ pd_3 rfl (argsL := [(.long (own_lws q0 q1)), (.long (own_lws q2 q3))]) (rest := []) rfl rfl at_61 (Nat.le_of_ble_eq_true rfl) (Nat.le_of_ble_eq_true rfl) (Nat.le_of_ble_eq_true rfl) (Nat.le_of_ble_eq_true rfl) (pc' := 64) rfl (fun T32 X32 e32 => ?_)
  refine ow_lstore C X32 at_64 (Ls' := #[.val (.long q0), .second, .val (.int q1), .val (.long q2), .second, .val (.int q3), .val (.int q4), .val (.int q5), .val (.int ((1 : Int32) + ((q4 &&& (2147483647 : Int32)) - ((q4 &&& (2147483647 : Int32)) / (100 : Int32)) * (100 : Int32)))), .val (.int (q5 &&& (3 : Int32))), .val (.long (own_val q0 q1)), .second, .val (.long (own_val q2 q3)), .second, .val (.long (own_lws q0 q1)), .second, .val (.long (own_lws q2 q3)), .second, .val (.long (own_min (own_lws q0 q1) (own_lws q2 q3))), .second, .val (.long (own_max (own_lws q0 q1) (own_lws q2 q3))), .second, .unset, .unset, .unset, .unset, .unset]) rfl (pc' := 66) rfl ?_
  refine ow_new C X32 e32 (hw _ (List.mem_of_getElem? (i := 21) rfl)) (hw _ (List.mem_of_getElem? (i := 22) rfl)) (hw _ (List.mem_of_getElem? (i := 23) rfl)) at_66 (Nat.le_of_ble_eq_true rfl) (Nat.le_of_ble_eq_true rfl) (pc' := 69) rfl (fun T33 h33 a33 g33 X33 e33 Ex33 A33 D33 => ?_)
  have Fn33_0 : Fld Z h33 a33 "com/example/topsail/topsail/cli/LatencyHistogram" "counts" "[J" .null := D33 (Or.inr (hw _ (List.mem_of_getElem? (i := 46) rfl))) (ty := (.array .long)) (by decide)
  have Fn33_1 : Fld Z h33 a33 "com/example/topsail/topsail/cli/LatencyHistogram" "count" "J" (.long (0 : Int64)) := D33 (Or.inl (hw _ (List.mem_of_getElem? (i := 53) rfl))) (ty := .long) (by decide)
  have Ge33 : n0 ≤ a33 := Nat.le_trans Z0 (Nat.le_of_eq g33.symm)
  have Z33 : n0 ≤ h33.size := Nat.le_trans Z0 Ex33.1
  refine ow_dup C X33 at_69 rfl (pc' := 70) rfl ?_
  refine ow_callN C X33 e33 rfl (hw _ (List.mem_of_getElem? (i := 24) rfl)) (hw _ (List.mem_of_getElem? (i := 25) rfl)) (hw _ (List.mem_of_getElem? (i := 23) rfl)) (hw _ (List.mem_of_getElem? (i := 26) rfl)) (by decide) (rm_init l Z a0 hw a33 _ h33 n0 Z33 A33 Ge33 Fn33_0 Fn33_1) pd_4 rfl (argsL := []) (rest := [(.ref a33)]) rfl rfl at_70 (Nat.le_of_ble_eq_true rfl) (Nat.le_of_ble_eq_true rfl) (Nat.le_of_ble_eq_true rfl) (Nat.le_of_ble_eq_true rfl) (pc' := 73) rfl (fun T34 v34 L34 X34 Q34 => ?_)
  obtain ⟨rfl, N34, p34, E34, F34, G34, A34, ga34, gp34⟩ := Q34
  have Nn34 := Fr.app (Fr.nil n0) N34
  show OwF p e below _ T34 (mkF m 73 #[.val (.long q0), .second, .val (.int q1), .val (.long q2), .second, .val (.int q3), .val (.int q4), .val (.int q5), .val (.int ((1 : Int32) + ((q4 &&& (2147483647 : Int32)) - ((q4 &&& (2147483647 : Int32)) / (100 : Int32)) * (100 : Int32)))), .val (.int (q5 &&& (3 : Int32))), .val (.long (own_val q0 q1)), .second, .val (.long (own_val q2 q3)), .second, .val (.long (own_lws q0 q1)), .second, .val (.long (own_lws q2 q3)), .second, .val (.long (own_min (own_lws q0 q1) (own_lws q2 q3))), .second, .val (.long (own_max (own_lws q0 q1) (own_lws q2 q3))), .second, .unset, .unset, .unset, .unset, .unset] [(.ref a33)])
  refine ow_astore C X34 at_73 rfl (Ls' := #[.val (.long q0), .second, .val (.int q1), .val (.long q2), .second, .val (.int q3), .val (.int q4), .val (.int q5), .val (.int ((1 : Int32) + ((q4 &&& (2147483647 : Int32)) - ((q4 &&& (2147483647 : Int32)) / (100 : Int32)) * (100 : Int32)))), .val (.int (q5 &&& (3 : Int32))), .val (.long (own_val q0 q1)), .second, .val (.long (own_val q2 q3)), .second, .val (.long (own_lws q0 q1)), .second, .val (.long (own_lws q2 q3)), .second, .val (.long (own_min (own_lws q0 q1) (own_lws q2 q3))), .second, .val (.long (own_max (own_lws q0 q1) (own_lws q2 q3))), .second, .val (.ref a33), .unset, .unset, .unset, .unset]) rfl (pc' := 75) rfl ?_
  refine ow_aload C X34 at_75 rfl rfl (pc' := 77) rfl ?_
  refine ow_lload C X34 at_77 rfl (pc' := 79) rfl ?_
  refine ow_callV C X34 rfl (hw _ (List.mem_of_getElem? (i := 47) rfl)) (hw _ (List.mem_of_getElem? (i := 48) rfl)) (hw _ (List.mem_of_getElem? (i := 50) rfl)) rfl (hw _ (List.mem_of_getElem? (i := 49) rfl)) (hw _ (List.mem_of_getElem? (i := 23) rfl)) (hw _ (List.mem_of_getElem? (i := 51) rfl)) (by decide) E34 (rm_record l Z a0 hw a33 (own_val q0 q1) p34 [] (own_bkt (own_val q0 q1)).toNatClampNeg (own_bkt_nn (own_nnval q0 q1)) rfl (own_bkt_lt (own_nnval q0 q1)) T34.heap n0 E34 F34 G34 A34 ga34 gp34) pd_5 rfl (argsL := [(.long (own_val q0 q1))]) (rest := []) rfl rfl at_79 (Nat.le_of_ble_eq_true rfl) (Nat.le_of_ble_eq_true rfl) (Nat.le_of_ble_eq_true rfl) (Nat.le_of_ble_eq_true rfl) (pc' := 82) rfl (fun T35 v35 L35 X35 Q35 => ?_)
  obtain ⟨rfl, N35, p35, E35, F35, G35, A35, ga35, gp35⟩ := Q35
  have Nn35 := Fr.app Nn34 N35
  show OwF p e below _ T35 (mkF m 82 #[.val (.long q0), .second, .val (.int q1), .val (.long q2), .second, .val (.int q3), .val (.int q4), .val (.int q5), .val (.int ((1 : Int32) + ((q4 &&& (2147483647 : Int32)) - ((q4 &&& (2147483647 : Int32)) / (100 : Int32)) * (100 : Int32)))), .val (.int (q5 &&& (3 : Int32))), .val (.long (own_val q0 q1)), .second, .val (.long (own_val q2 q3)), .second, .val (.long (own_lws q0 q1)), .second, .val (.long (own_lws q2 q3)), .second, .val (.long (own_min (own_lws q0 q1) (own_lws q2 q3))), .second, .val (.long (own_max (own_lws q0 q1) (own_lws q2 q3))), .second, .val (.ref a33), .unset, .unset, .unset, .unset] [])
  refine ow_iload C X35 at_82 rfl (pc' := 84) rfl ?_
  refine ow_iconst (3 : Int32) C X35 at_84 (by decide) (pc' := 85) rfl ?_
  refine ow_icmp_ne C X35 at_85 (pcT := 95) (pc' := 88) (by decide) (by decide) rfl (fun b85 => ?_) (fun b85 => ?_)
  · refine ow_aload C X35 at_95 rfl rfl (pc' := 97) rfl ?_
    refine ow_lload C X35 at_97 rfl (pc' := 99) rfl ?_
    refine ow_callV C X35 rfl (hw _ (List.mem_of_getElem? (i := 47) rfl)) (hw _ (List.mem_of_getElem? (i := 48) rfl)) (hw _ (List.mem_of_getElem? (i := 50) rfl)) rfl (hw _ (List.mem_of_getElem? (i := 49) rfl)) (hw _ (List.mem_of_getElem? (i := 23) rfl)) (hw _ (List.mem_of_getElem? (i := 51) rfl)) (by decide) E35 (rm_record l Z a0 hw a33 (own_val q2 q3) p35 [((own_bkt (own_val q0 q1)).toNatClampNeg)] (own_bkt (own_val q2 q3)).toNatClampNeg (own_bkt_nn (own_nnval q2 q3)) rfl (own_bkt_lt (own_nnval q2 q3)) T35.heap n0 E35 F35 G35 A35 ga35 gp35) pd_5 rfl (argsL := [(.long (own_val q2 q3))]) (rest := []) rfl rfl at_99 (Nat.le_of_ble_eq_true rfl) (Nat.le_of_ble_eq_true rfl) (Nat.le_of_ble_eq_true rfl) (Nat.le_of_ble_eq_true rfl) (pc' := 102) rfl (fun T37 v37 L37 X37 Q37 => ?_)
    obtain ⟨rfl, N37, p37, E37, F37, G37, A37, ga37, gp37⟩ := Q37
    have Nn37 := Fr.app Nn35 N37
    show OwF p e below _ T37 (mkF m 102 #[.val (.long q0), .second, .val (.int q1), .val (.long q2), .second, .val (.int q3), .val (.int q4), .val (.int q5), .val (.int ((1 : Int32) + ((q4 &&& (2147483647 : Int32)) - ((q4 &&& (2147483647 : Int32)) / (100 : Int32)) * (100 : Int32)))), .val (.int (q5 &&& (3 : Int32))), .val (.long (own_val q0 q1)), .second, .val (.long (own_val q2 q3)), .second, .val (.long (own_lws q0 q1)), .second, .val (.long (own_lws q2 q3)), .second, .val (.long (own_min (own_lws q0 q1) (own_lws q2 q3))), .second, .val (.long (own_max (own_lws q0 q1) (own_lws q2 q3))), .second, .val (.ref a33), .unset, .unset, .unset, .unset] [])
    refine ow_iload C X37 at_102 rfl (pc' := 104) rfl ?_
    refine ow_if_ne C X37 at_104 (pcT := 126) (pc' := 107) (by decide) (by decide) rfl (fun b104 => ?_) (fun b104 => ?_)
    · refine ow_iload C X37 at_126 rfl (pc' := 128) rfl ?_
      refine ow_iconst (1 : Int32) C X37 at_128 (by decide) (pc' := 129) rfl ?_
      refine ow_icmp_ne C X37 at_129 (pcT := 146) (pc' := 132) (by decide) (by decide) rfl (fun b129 => ?_) (fun b129 => ?_)
      · refine ow_aload C X37 at_146 rfl rfl (pc' := 148) rfl ?_
        refine ow_lload C X37 at_148 rfl (pc' := 150) rfl ?_
        refine ow_callV C X37 rfl (hw _ (List.mem_of_getElem? (i := 47) rfl)) (hw _ (List.mem_of_getElem? (i := 48) rfl)) (hw _ (List.mem_of_getElem? (i := 50) rfl)) rfl (hw _ (List.mem_of_getElem? (i := 49) rfl)) (hw _ (List.mem_of_getElem? (i := 23) rfl)) (hw _ (List.mem_of_getElem? (i := 51) rfl)) (by decide) E37 (rm_record l Z a0 hw a33 (own_val q2 q3) p37 [((own_bkt (own_val q2 q3)).toNatClampNeg), ((own_bkt (own_val q0 q1)).toNatClampNeg)] (own_bkt (own_val q2 q3)).toNatClampNeg (own_bkt_nn (own_nnval q2 q3)) rfl (own_bkt_lt (own_nnval q2 q3)) T37.heap n0 E37 F37 G37 A37 ga37 gp37) pd_5 rfl (argsL := [(.long (own_val q2 q3))]) (rest := []) rfl rfl at_150 (Nat.le_of_ble_eq_true rfl) (Nat.le_of_ble_eq_true rfl) (Nat.le_of_ble_eq_true rfl) (Nat.le_of_ble_eq_true rfl) (pc' := 153) rfl (fun T44 v44 L44 X44 Q44 => ?_)
        obtain ⟨rfl, N44, p44, E44, F44, G44, A44, ga44, gp44⟩ := Q44
        have Nn44 := Fr.app Nn37 N44
        show OwF p e below _ T44 (mkF m 153 #[.val (.long q0), .second, .val (.int q1), .val (.long q2), .second, .val (.int q3), .val (.int q4), .val (.int q5), .val (.int ((1 : Int32) + ((q4 &&& (2147483647 : Int32)) - ((q4 &&& (2147483647 : Int32)) / (100 : Int32)) * (100 : Int32)))), .val (.int (q5 &&& (3 : Int32))), .val (.long (own_val q0 q1)), .second, .val (.long (own_val q2 q3)), .second, .val (.long (own_lws q0 q1)), .second, .val (.long (own_lws q2 q3)), .second, .val (.long (own_min (own_lws q0 q1) (own_lws q2 q3))), .second, .val (.long (own_max (own_lws q0 q1) (own_lws q2 q3))), .second, .val (.ref a33), .unset, .unset, .unset, .unset] [])
        refine ow_lload C X44 at_153 rfl (pc' := 155) rfl ?_
        refine ow_lstore C X44 at_155 (Ls' := #[.val (.long q0), .second, .val (.int q1), .val (.long q2), .second, .val (.int q3), .val (.int q4), .val (.int q5), .val (.int ((1 : Int32) + ((q4 &&& (2147483647 : Int32)) - ((q4 &&& (2147483647 : Int32)) / (100 : Int32)) * (100 : Int32)))), .val (.int (q5 &&& (3 : Int32))), .val (.long (own_val q0 q1)), .second, .val (.long (own_val q2 q3)), .second, .val (.long (own_lws q0 q1)), .second, .val (.long (own_lws q2 q3)), .second, .val (.long (own_min (own_lws q0 q1) (own_lws q2 q3))), .second, .val (.long (own_max (own_lws q0 q1) (own_lws q2 q3))), .second, .val (.ref a33), .unset, .unset, .val (.long (own_lws q2 q3)), .second]) rfl (pc' := 157) rfl ?_
        refine ow_iload C X44 at_157 rfl (pc' := 159) rfl ?_
        refine ow_bipush (33 : Int32) C X44 at_159 (by decide) (pc' := 161) rfl ?_
        refine ow_icmp_gt C X44 at_161 (pcT := 171) (pc' := 164) (by decide) (by decide) rfl (fun b161 => ?_) (fun b161 => ?_)
        · refine ow_iload C X44 at_171 rfl (pc' := 173) rfl ?_
          refine ow_bipush (66 : Int32) C X44 at_173 (by decide) (pc' := 175) rfl ?_
          refine ow_icmp_gt C X44 at_175 (pcT := 185) (pc' := 178) (by decide) (by decide) rfl (fun b175 => ?_) (fun b175 => ?_)
          · refine ow_lload C X44 at_185 rfl (pc' := 187) rfl ?_
            refine ow_lstore C X44 at_187 (Ls' := #[.val (.long q0), .second, .val (.int q1), .val (.long q2), .second, .val (.int q3), .val (.int q4), .val (.int q5), .val (.int ((1 : Int32) + ((q4 &&& (2147483647 : Int32)) - ((q4 &&& (2147483647 : Int32)) / (100 : Int32)) * (100 : Int32)))), .val (.int (q5 &&& (3 : Int32))), .val (.long (own_val q0 q1)), .second, .val (.long (own_val q2 q3)), .second, .val (.long (own_lws q0 q1)), .second, .val (.long (own_lws q2 q3)), .second, .val (.long (own_min (own_lws q0 q1) (own_lws q2 q3))), .second, .val (.long (own_max (own_lws q0 q1) (own_lws q2 q3))), .second, .val (.ref a33), .val (.long (own_max (own_lws q0 q1) (own_lws q2 q3))), .second, .val (.long (own_lws q2 q3)), .second]) rfl (pc' := 189) rfl ?_
            refine ow_aload C X44 at_189 rfl rfl (pc' := 191) rfl ?_
            refine ow_iload C X44 at_191 rfl (pc' := 193) rfl ?_
            refine ow_callV C X44 rfl (hw _ (List.mem_of_getElem? (i := 54) rfl)) (hw _ (List.mem_of_getElem? (i := 55) rfl)) (hw _ (List.mem_of_getElem? (i := 57) rfl)) rfl (hw _ (List.mem_of_getElem? (i := 56) rfl)) (hw _ (List.mem_of_getElem? (i := 23) rfl)) (hw _ (List.mem_of_getElem? (i := 58) rfl)) (by decide) E44 (rm_pct l Z a0 hw a33 ((1 : Int32) + ((q4 &&& (2147483647 : Int32)) - ((q4 &&& (2147483647 : Int32)) / (100 : Int32)) * (100 : Int32))) p44 [((own_bkt (own_val q2 q3)).toNatClampNeg), ((own_bkt (own_val q2 q3)).toNatClampNeg), ((own_bkt (own_val q0 q1)).toNatClampNeg)] (Int64.ofNat 3) ((own_bkt (own_max (own_val q0 q1) (own_val q2 q3))).toNatClampNeg) (own_bkt (own_max (own_val q0 q1) (own_val q2 q3))) (own_kb (own_nnmax (own_nnval q0 q1) (own_nnval q2 q3))) (own_bkt_lt (own_nnmax (own_nnval q0 q1) (own_nnval q2 q3))) (show ¬ (3 : Int64) = 0 from by decide) (own_rank ((1 : Int32) + ((q4 &&& (2147483647 : Int32)) - ((q4 &&& (2147483647 : Int32)) / (100 : Int32)) * (100 : Int32))) 3 3 (own_p_rng q4) (by decide) (by have hp := own_p_rng q4; have c1 := b161; have c2 := b175; have k33 : (33 : Int32).toInt = 33 := rfl; have k50 : (50 : Int32).toInt = 50 := rfl; have k66 : (66 : Int32).toInt = 66 := rfl; (try rw [Int32.lt_iff_toInt_lt] at c1); (try rw [Int32.lt_iff_toInt_lt] at c2); omega) (by decide)) (own_Slo (Nat.le_of_ble_eq_true rfl) (by decide) (fun j hj => by have km := own_Kmin (own_nnval q0 q1) (own_nnval q2 q3); have kx := own_Kmax (own_nnval q0 q1) (own_nnval q2 q3); rw [own_n3]; (repeat' split) <;> omega)) (own_Shi (Nat.le_of_ble_eq_true rfl) (by decide) (by have km := own_Kmin (own_nnval q0 q1) (own_nnval q2 q3); have kx := own_Kmax (own_nnval q0 q1) (own_nnval q2 q3); rw [own_n3]; (repeat' split) <;> omega)) T44.heap F44 G44 A44) pd_2 rfl (argsL := [(.int ((1 : Int32) + ((q4 &&& (2147483647 : Int32)) - ((q4 &&& (2147483647 : Int32)) / (100 : Int32)) * (100 : Int32))))]) (rest := []) rfl rfl at_193 (Nat.le_of_ble_eq_true rfl) (Nat.le_of_ble_eq_true rfl) (Nat.le_of_ble_eq_true rfl) (Nat.le_of_ble_eq_true rfl) (pc' := 196) rfl (fun T45 v45 L45 X45 Q45 => ?_)
            obtain ⟨rfl, rfl, e45⟩ := Q45
            rw [List.append_nil] at X45
            show OwF p e below _ T45 (mkF m 196 #[.val (.long q0), .second, .val (.int q1), .val (.long q2), .second, .val (.int q3), .val (.int q4), .val (.int q5), .val (.int ((1 : Int32) + ((q4 &&& (2147483647 : Int32)) - ((q4 &&& (2147483647 : Int32)) / (100 : Int32)) * (100 : Int32)))), .val (.int (q5 &&& (3 : Int32))), .val (.long (own_val q0 q1)), .second, .val (.long (own_val q2 q3)), .second, .val (.long (own_lws q0 q1)), .second, .val (.long (own_lws q2 q3)), .second, .val (.long (own_min (own_lws q0 q1) (own_lws q2 q3))), .second, .val (.long (own_max (own_lws q0 q1) (own_lws q2 q3))), .second, .val (.ref a33), .val (.long (own_max (own_lws q0 q1) (own_lws q2 q3))), .second, .val (.long (own_lws q2 q3)), .second] [(.long (own_low (own_bkt (own_max (own_val q0 q1) (own_val q2 q3)))))])
            refine ow_lload C X45 at_196 rfl (pc' := 198) rfl ?_
            refine ow_lcmp C X45 at_198 (pc' := 199) rfl ?_
            refine ow_lif_ne C X45 at_199 (pcT := 206) (pc' := 202) (by decide) (by decide) rfl (fun b199 => ?_) (fun b199 => ?_)
            · refine ow_iconst (0 : Int32) C X45 at_206 (by decide) (pc' := 207) rfl ?_
              exact ow_retZ C X45 at_207 (Nat.le_of_ble_eq_true rfl) (Nat.le_of_ble_eq_true rfl) (Or.inl rfl) ⟨(show some (Value.int (0 : Int32)) = some (Value.int (own_law q0 q1 q2 q3 q4 q5)) from congrArg (fun z => some (Value.int z)) (by unfold own_law; rw [if_neg b85, if_neg b104, if_neg b129, if_pos b161, if_pos b175, if_neg b199])), Nn44⟩
            · refine ow_iconst (1 : Int32) C X45 at_202 (by decide) (pc' := 203) rfl ?_
              refine ow_goto C X45 at_203 (pcT := 207) (by decide) (by decide) ?_
              exact ow_retZ C X45 at_207 (Nat.le_of_ble_eq_true rfl) (Nat.le_of_ble_eq_true rfl) (Or.inr rfl) ⟨(show some (Value.int (1 : Int32)) = some (Value.int (own_law q0 q1 q2 q3 q4 q5)) from congrArg (fun z => some (Value.int z)) (by unfold own_law; rw [if_neg b85, if_neg b104, if_neg b129, if_pos b161, if_pos b175, if_pos b199])), Nn44⟩
          · refine ow_lload C X44 at_178 rfl (pc' := 180) rfl ?_
            refine ow_lstore C X44 at_180 (Ls' := #[.val (.long q0), .second, .val (.int q1), .val (.long q2), .second, .val (.int q3), .val (.int q4), .val (.int q5), .val (.int ((1 : Int32) + ((q4 &&& (2147483647 : Int32)) - ((q4 &&& (2147483647 : Int32)) / (100 : Int32)) * (100 : Int32)))), .val (.int (q5 &&& (3 : Int32))), .val (.long (own_val q0 q1)), .second, .val (.long (own_val q2 q3)), .second, .val (.long (own_lws q0 q1)), .second, .val (.long (own_lws q2 q3)), .second, .val (.long (own_min (own_lws q0 q1) (own_lws q2 q3))), .second, .val (.long (own_max (own_lws q0 q1) (own_lws q2 q3))), .second, .val (.ref a33), .val (.long (own_lws q2 q3)), .second, .val (.long (own_lws q2 q3)), .second]) rfl (pc' := 182) rfl ?_
            refine ow_goto C X44 at_182 (pcT := 189) (by decide) (by decide) ?_
            refine ow_aload C X44 at_189 rfl rfl (pc' := 191) rfl ?_
            refine ow_iload C X44 at_191 rfl (pc' := 193) rfl ?_
            refine ow_callV C X44 rfl (hw _ (List.mem_of_getElem? (i := 54) rfl)) (hw _ (List.mem_of_getElem? (i := 55) rfl)) (hw _ (List.mem_of_getElem? (i := 57) rfl)) rfl (hw _ (List.mem_of_getElem? (i := 56) rfl)) (hw _ (List.mem_of_getElem? (i := 23) rfl)) (hw _ (List.mem_of_getElem? (i := 58) rfl)) (by decide) E44 (rm_pct l Z a0 hw a33 ((1 : Int32) + ((q4 &&& (2147483647 : Int32)) - ((q4 &&& (2147483647 : Int32)) / (100 : Int32)) * (100 : Int32))) p44 [((own_bkt (own_val q2 q3)).toNatClampNeg), ((own_bkt (own_val q2 q3)).toNatClampNeg), ((own_bkt (own_val q0 q1)).toNatClampNeg)] (Int64.ofNat 2) ((own_bkt (own_val q2 q3)).toNatClampNeg) (own_bkt (own_val q2 q3)) (own_kb (own_nnval q2 q3)) (own_bkt_lt (own_nnval q2 q3)) (show ¬ (3 : Int64) = 0 from by decide) (own_rank ((1 : Int32) + ((q4 &&& (2147483647 : Int32)) - ((q4 &&& (2147483647 : Int32)) / (100 : Int32)) * (100 : Int32))) 3 2 (own_p_rng q4) (by decide) (by have hp := own_p_rng q4; have c1 := b161; have c2 := b175; have k33 : (33 : Int32).toInt = 33 := rfl; have k50 : (50 : Int32).toInt = 50 := rfl; have k66 : (66 : Int32).toInt = 66 := rfl; (try rw [Int32.lt_iff_toInt_lt] at c1); (try rw [Int32.lt_iff_toInt_lt] at c2); omega) (by decide)) (own_Slo (Nat.le_of_ble_eq_true rfl) (by decide) (fun j hj => by have km := own_Kmin (own_nnval q0 q1) (own_nnval q2 q3); have kx := own_Kmax (own_nnval q0 q1) (own_nnval q2 q3); rw [own_n3]; (repeat' split) <;> omega)) (own_Shi (Nat.le_of_ble_eq_true rfl) (by decide) (by have km := own_Kmin (own_nnval q0 q1) (own_nnval q2 q3); have kx := own_Kmax (own_nnval q0 q1) (own_nnval q2 q3); rw [own_n3]; (repeat' split) <;> omega)) T44.heap F44 G44 A44) pd_2 rfl (argsL := [(.int ((1 : Int32) + ((q4 &&& (2147483647 : Int32)) - ((q4 &&& (2147483647 : Int32)) / (100 : Int32)) * (100 : Int32))))]) (rest := []) rfl rfl at_193 (Nat.le_of_ble_eq_true rfl) (Nat.le_of_ble_eq_true rfl) (Nat.le_of_ble_eq_true rfl) (Nat.le_of_ble_eq_true rfl) (pc' := 196) rfl (fun T46 v46 L46 X46 Q46 => ?_)
            obtain ⟨rfl, rfl, e46⟩ := Q46
            rw [List.append_nil] at X46
            show OwF p e below _ T46 (mkF m 196 #[.val (.long q0), .second, .val (.int q1), .val (.long q2), .second, .val (.int q3), .val (.int q4), .val (.int q5), .val (.int ((1 : Int32) + ((q4 &&& (2147483647 : Int32)) - ((q4 &&& (2147483647 : Int32)) / (100 : Int32)) * (100 : Int32)))), .val (.int (q5 &&& (3 : Int32))), .val (.long (own_val q0 q1)), .second, .val (.long (own_val q2 q3)), .second, .val (.long (own_lws q0 q1)), .second, .val (.long (own_lws q2 q3)), .second, .val (.long (own_min (own_lws q0 q1) (own_lws q2 q3))), .second, .val (.long (own_max (own_lws q0 q1) (own_lws q2 q3))), .second, .val (.ref a33), .val (.long (own_lws q2 q3)), .second, .val (.long (own_lws q2 q3)), .second] [(.long (own_low (own_bkt (own_val q2 q3))))])
            refine ow_lload C X46 at_196 rfl (pc' := 198) rfl ?_
            refine ow_lcmp C X46 at_198 (pc' := 199) rfl ?_
            refine ow_lif_ne C X46 at_199 (pcT := 206) (pc' := 202) (by decide) (by decide) rfl (fun b199 => ?_) (fun b199 => ?_)
            · refine ow_iconst (0 : Int32) C X46 at_206 (by decide) (pc' := 207) rfl ?_
              exact ow_retZ C X46 at_207 (Nat.le_of_ble_eq_true rfl) (Nat.le_of_ble_eq_true rfl) (Or.inl rfl) ⟨(show some (Value.int (0 : Int32)) = some (Value.int (own_law q0 q1 q2 q3 q4 q5)) from congrArg (fun z => some (Value.int z)) (by unfold own_law; rw [if_neg b85, if_neg b104, if_neg b129, if_pos b161, if_neg b175, if_neg b199])), Nn44⟩
            · refine ow_iconst (1 : Int32) C X46 at_202 (by decide) (pc' := 203) rfl ?_
              refine ow_goto C X46 at_203 (pcT := 207) (by decide) (by decide) ?_
              exact ow_retZ C X46 at_207 (Nat.le_of_ble_eq_true rfl) (Nat.le_of_ble_eq_true rfl) (Or.inr rfl) ⟨(show some (Value.int (1 : Int32)) = some (Value.int (own_law q0 q1 q2 q3 q4 q5)) from congrArg (fun z => some (Value.int z)) (by unfold own_law; rw [if_neg b85, if_neg b104, if_neg b129, if_pos b161, if_neg b175, if_pos b199])), Nn44⟩
        · refine ow_lload C X44 at_164 rfl (pc' := 166) rfl ?_
          refine ow_lstore C X44 at_166 (Ls' := #[.val (.long q0), .second, .val (.int q1), .val (.long q2), .second, .val (.int q3), .val (.int q4), .val (.int q5), .val (.int ((1 : Int32) + ((q4 &&& (2147483647 : Int32)) - ((q4 &&& (2147483647 : Int32)) / (100 : Int32)) * (100 : Int32)))), .val (.int (q5 &&& (3 : Int32))), .val (.long (own_val q0 q1)), .second, .val (.long (own_val q2 q3)), .second, .val (.long (own_lws q0 q1)), .second, .val (.long (own_lws q2 q3)), .second, .val (.long (own_min (own_lws q0 q1) (own_lws q2 q3))), .second, .val (.long (own_max (own_lws q0 q1) (own_lws q2 q3))), .second, .val (.ref a33), .val (.long (own_min (own_lws q0 q1) (own_lws q2 q3))), .second, .val (.long (own_lws q2 q3)), .second]) rfl (pc' := 168) rfl ?_
          refine ow_goto C X44 at_168 (pcT := 189) (by decide) (by decide) ?_
          refine ow_aload C X44 at_189 rfl rfl (pc' := 191) rfl ?_
          refine ow_iload C X44 at_191 rfl (pc' := 193) rfl ?_
          refine ow_callV C X44 rfl (hw _ (List.mem_of_getElem? (i := 54) rfl)) (hw _ (List.mem_of_getElem? (i := 55) rfl)) (hw _ (List.mem_of_getElem? (i := 57) rfl)) rfl (hw _ (List.mem_of_getElem? (i := 56) rfl)) (hw _ (List.mem_of_getElem? (i := 23) rfl)) (hw _ (List.mem_of_getElem? (i := 58) rfl)) (by decide) E44 (rm_pct l Z a0 hw a33 ((1 : Int32) + ((q4 &&& (2147483647 : Int32)) - ((q4 &&& (2147483647 : Int32)) / (100 : Int32)) * (100 : Int32))) p44 [((own_bkt (own_val q2 q3)).toNatClampNeg), ((own_bkt (own_val q2 q3)).toNatClampNeg), ((own_bkt (own_val q0 q1)).toNatClampNeg)] (Int64.ofNat 1) ((own_bkt (own_min (own_val q0 q1) (own_val q2 q3))).toNatClampNeg) (own_bkt (own_min (own_val q0 q1) (own_val q2 q3))) (own_kb (own_nnmin (own_nnval q0 q1) (own_nnval q2 q3))) (own_bkt_lt (own_nnmin (own_nnval q0 q1) (own_nnval q2 q3))) (show ¬ (3 : Int64) = 0 from by decide) (own_rank ((1 : Int32) + ((q4 &&& (2147483647 : Int32)) - ((q4 &&& (2147483647 : Int32)) / (100 : Int32)) * (100 : Int32))) 3 1 (own_p_rng q4) (by decide) (by have hp := own_p_rng q4; have c1 := b161; have k33 : (33 : Int32).toInt = 33 := rfl; have k50 : (50 : Int32).toInt = 50 := rfl; have k66 : (66 : Int32).toInt = 66 := rfl; (try rw [Int32.lt_iff_toInt_lt] at c1); (try rw [Int32.lt_iff_toInt_lt] at c2); omega) (by decide)) (own_Slo (Nat.le_of_ble_eq_true rfl) (by decide) (fun j hj => by have km := own_Kmin (own_nnval q0 q1) (own_nnval q2 q3); have kx := own_Kmax (own_nnval q0 q1) (own_nnval q2 q3); rw [own_n3]; (repeat' split) <;> omega)) (own_Shi (Nat.le_of_ble_eq_true rfl) (by decide) (by have km := own_Kmin (own_nnval q0 q1) (own_nnval q2 q3); have kx := own_Kmax (own_nnval q0 q1) (own_nnval q2 q3); rw [own_n3]; (repeat' split) <;> omega)) T44.heap F44 G44 A44) pd_2 rfl (argsL := [(.int ((1 : Int32) + ((q4 &&& (2147483647 : Int32)) - ((q4 &&& (2147483647 : Int32)) / (100 : Int32)) * (100 : Int32))))]) (rest := []) rfl rfl at_193 (Nat.le_of_ble_eq_true rfl) (Nat.le_of_ble_eq_true rfl) (Nat.le_of_ble_eq_true rfl) (Nat.le_of_ble_eq_true rfl) (pc' := 196) rfl (fun T47 v47 L47 X47 Q47 => ?_)
          obtain ⟨rfl, rfl, e47⟩ := Q47
          rw [List.append_nil] at X47
          show OwF p e below _ T47 (mkF m 196 #[.val (.long q0), .second, .val (.int q1), .val (.long q2), .second, .val (.int q3), .val (.int q4), .val (.int q5), .val (.int ((1 : Int32) + ((q4 &&& (2147483647 : Int32)) - ((q4 &&& (2147483647 : Int32)) / (100 : Int32)) * (100 : Int32)))), .val (.int (q5 &&& (3 : Int32))), .val (.long (own_val q0 q1)), .second, .val (.long (own_val q2 q3)), .second, .val (.long (own_lws q0 q1)), .second, .val (.long (own_lws q2 q3)), .second, .val (.long (own_min (own_lws q0 q1) (own_lws q2 q3))), .second, .val (.long (own_max (own_lws q0 q1) (own_lws q2 q3))), .second, .val (.ref a33), .val (.long (own_min (own_lws q0 q1) (own_lws q2 q3))), .second, .val (.long (own_lws q2 q3)), .second] [(.long (own_low (own_bkt (own_min (own_val q0 q1) (own_val q2 q3)))))])
          refine ow_lload C X47 at_196 rfl (pc' := 198) rfl ?_
          refine ow_lcmp C X47 at_198 (pc' := 199) rfl ?_
          refine ow_lif_ne C X47 at_199 (pcT := 206) (pc' := 202) (by decide) (by decide) rfl (fun b199 => ?_) (fun b199 => ?_)
          · refine ow_iconst (0 : Int32) C X47 at_206 (by decide) (pc' := 207) rfl ?_
            exact ow_retZ C X47 at_207 (Nat.le_of_ble_eq_true rfl) (Nat.le_of_ble_eq_true rfl) (Or.inl rfl) ⟨(show some (Value.int (0 : Int32)) = some (Value.int (own_law q0 q1 q2 q3 q4 q5)) from congrArg (fun z => some (Value.int z)) (by unfold own_law; rw [if_neg b85, if_neg b104, if_neg b129, if_neg b161, if_neg b199])), Nn44⟩
          · refine ow_iconst (1 : Int32) C X47 at_202 (by decide) (pc' := 203) rfl ?_
            refine ow_goto C X47 at_203 (pcT := 207) (by decide) (by decide) ?_
            exact ow_retZ C X47 at_207 (Nat.le_of_ble_eq_true rfl) (Nat.le_of_ble_eq_true rfl) (Or.inr rfl) ⟨(show some (Value.int (1 : Int32)) = some (Value.int (own_law q0 q1 q2 q3 q4 q5)) from congrArg (fun z => some (Value.int z)) (by unfold own_law; rw [if_neg b85, if_neg b104, if_neg b129, if_neg b161, if_pos b199])), Nn44⟩
      · refine ow_aload C X37 at_132 rfl rfl (pc' := 134) rfl ?_
        refine ow_lload C X37 at_134 rfl (pc' := 136) rfl ?_
        refine ow_callV C X37 rfl (hw _ (List.mem_of_getElem? (i := 47) rfl)) (hw _ (List.mem_of_getElem? (i := 48) rfl)) (hw _ (List.mem_of_getElem? (i := 50) rfl)) rfl (hw _ (List.mem_of_getElem? (i := 49) rfl)) (hw _ (List.mem_of_getElem? (i := 23) rfl)) (hw _ (List.mem_of_getElem? (i := 51) rfl)) (by decide) E37 (rm_record l Z a0 hw a33 (own_val q0 q1) p37 [((own_bkt (own_val q2 q3)).toNatClampNeg), ((own_bkt (own_val q0 q1)).toNatClampNeg)] (own_bkt (own_val q0 q1)).toNatClampNeg (own_bkt_nn (own_nnval q0 q1)) rfl (own_bkt_lt (own_nnval q0 q1)) T37.heap n0 E37 F37 G37 A37 ga37 gp37) pd_5 rfl (argsL := [(.long (own_val q0 q1))]) (rest := []) rfl rfl at_136 (Nat.le_of_ble_eq_true rfl) (Nat.le_of_ble_eq_true rfl) (Nat.le_of_ble_eq_true rfl) (Nat.le_of_ble_eq_true rfl) (pc' := 139) rfl (fun T40 v40 L40 X40 Q40 => ?_)
        obtain ⟨rfl, N40, p40, E40, F40, G40, A40, ga40, gp40⟩ := Q40
        have Nn40 := Fr.app Nn37 N40
        show OwF p e below _ T40 (mkF m 139 #[.val (.long q0), .second, .val (.int q1), .val (.long q2), .second, .val (.int q3), .val (.int q4), .val (.int q5), .val (.int ((1 : Int32) + ((q4 &&& (2147483647 : Int32)) - ((q4 &&& (2147483647 : Int32)) / (100 : Int32)) * (100 : Int32)))), .val (.int (q5 &&& (3 : Int32))), .val (.long (own_val q0 q1)), .second, .val (.long (own_val q2 q3)), .second, .val (.long (own_lws q0 q1)), .second, .val (.long (own_lws q2 q3)), .second, .val (.long (own_min (own_lws q0 q1) (own_lws q2 q3))), .second, .val (.long (own_max (own_lws q0 q1) (own_lws q2 q3))), .second, .val (.ref a33), .unset, .unset, .unset, .unset] [])
        refine ow_lload C X40 at_139 rfl (pc' := 141) rfl ?_
        refine ow_lstore C X40 at_141 (Ls' := #[.val (.long q0), .second, .val (.int q1), .val (.long q2), .second, .val (.int q3), .val (.int q4), .val (.int q5), .val (.int ((1 : Int32) + ((q4 &&& (2147483647 : Int32)) - ((q4 &&& (2147483647 : Int32)) / (100 : Int32)) * (100 : Int32)))), .val (.int (q5 &&& (3 : Int32))), .val (.long (own_val q0 q1)), .second, .val (.long (own_val q2 q3)), .second, .val (.long (own_lws q0 q1)), .second, .val (.long (own_lws q2 q3)), .second, .val (.long (own_min (own_lws q0 q1) (own_lws q2 q3))), .second, .val (.long (own_max (own_lws q0 q1) (own_lws q2 q3))), .second, .val (.ref a33), .unset, .unset, .val (.long (own_lws q0 q1)), .second]) rfl (pc' := 143) rfl ?_
        refine ow_goto C X40 at_143 (pcT := 157) (by decide) (by decide) ?_
        refine ow_iload C X40 at_157 rfl (pc' := 159) rfl ?_
        refine ow_bipush (33 : Int32) C X40 at_159 (by decide) (pc' := 161) rfl ?_
        refine ow_icmp_gt C X40 at_161 (pcT := 171) (pc' := 164) (by decide) (by decide) rfl (fun b161 => ?_) (fun b161 => ?_)
        · refine ow_iload C X40 at_171 rfl (pc' := 173) rfl ?_
          refine ow_bipush (66 : Int32) C X40 at_173 (by decide) (pc' := 175) rfl ?_
          refine ow_icmp_gt C X40 at_175 (pcT := 185) (pc' := 178) (by decide) (by decide) rfl (fun b175 => ?_) (fun b175 => ?_)
          · refine ow_lload C X40 at_185 rfl (pc' := 187) rfl ?_
            refine ow_lstore C X40 at_187 (Ls' := #[.val (.long q0), .second, .val (.int q1), .val (.long q2), .second, .val (.int q3), .val (.int q4), .val (.int q5), .val (.int ((1 : Int32) + ((q4 &&& (2147483647 : Int32)) - ((q4 &&& (2147483647 : Int32)) / (100 : Int32)) * (100 : Int32)))), .val (.int (q5 &&& (3 : Int32))), .val (.long (own_val q0 q1)), .second, .val (.long (own_val q2 q3)), .second, .val (.long (own_lws q0 q1)), .second, .val (.long (own_lws q2 q3)), .second, .val (.long (own_min (own_lws q0 q1) (own_lws q2 q3))), .second, .val (.long (own_max (own_lws q0 q1) (own_lws q2 q3))), .second, .val (.ref a33), .val (.long (own_max (own_lws q0 q1) (own_lws q2 q3))), .second, .val (.long (own_lws q0 q1)), .second]) rfl (pc' := 189) rfl ?_
            refine ow_aload C X40 at_189 rfl rfl (pc' := 191) rfl ?_
            refine ow_iload C X40 at_191 rfl (pc' := 193) rfl ?_
            refine ow_callV C X40 rfl (hw _ (List.mem_of_getElem? (i := 54) rfl)) (hw _ (List.mem_of_getElem? (i := 55) rfl)) (hw _ (List.mem_of_getElem? (i := 57) rfl)) rfl (hw _ (List.mem_of_getElem? (i := 56) rfl)) (hw _ (List.mem_of_getElem? (i := 23) rfl)) (hw _ (List.mem_of_getElem? (i := 58) rfl)) (by decide) E40 (rm_pct l Z a0 hw a33 ((1 : Int32) + ((q4 &&& (2147483647 : Int32)) - ((q4 &&& (2147483647 : Int32)) / (100 : Int32)) * (100 : Int32))) p40 [((own_bkt (own_val q0 q1)).toNatClampNeg), ((own_bkt (own_val q2 q3)).toNatClampNeg), ((own_bkt (own_val q0 q1)).toNatClampNeg)] (Int64.ofNat 3) ((own_bkt (own_max (own_val q0 q1) (own_val q2 q3))).toNatClampNeg) (own_bkt (own_max (own_val q0 q1) (own_val q2 q3))) (own_kb (own_nnmax (own_nnval q0 q1) (own_nnval q2 q3))) (own_bkt_lt (own_nnmax (own_nnval q0 q1) (own_nnval q2 q3))) (show ¬ (3 : Int64) = 0 from by decide) (own_rank ((1 : Int32) + ((q4 &&& (2147483647 : Int32)) - ((q4 &&& (2147483647 : Int32)) / (100 : Int32)) * (100 : Int32))) 3 3 (own_p_rng q4) (by decide) (by have hp := own_p_rng q4; have c1 := b161; have c2 := b175; have k33 : (33 : Int32).toInt = 33 := rfl; have k50 : (50 : Int32).toInt = 50 := rfl; have k66 : (66 : Int32).toInt = 66 := rfl; (try rw [Int32.lt_iff_toInt_lt] at c1); (try rw [Int32.lt_iff_toInt_lt] at c2); omega) (by decide)) (own_Slo (Nat.le_of_ble_eq_true rfl) (by decide) (fun j hj => by have km := own_Kmin (own_nnval q0 q1) (own_nnval q2 q3); have kx := own_Kmax (own_nnval q0 q1) (own_nnval q2 q3); rw [own_n3]; (repeat' split) <;> omega)) (own_Shi (Nat.le_of_ble_eq_true rfl) (by decide) (by have km := own_Kmin (own_nnval q0 q1) (own_nnval q2 q3); have kx := own_Kmax (own_nnval q0 q1) (own_nnval q2 q3); rw [own_n3]; (repeat' split) <;> omega)) T40.heap F40 G40 A40) pd_2 rfl (argsL := [(.int ((1 : Int32) + ((q4 &&& (2147483647 : Int32)) - ((q4 &&& (2147483647 : Int32)) / (100 : Int32)) * (100 : Int32))))]) (rest := []) rfl rfl at_193 (Nat.le_of_ble_eq_true rfl) (Nat.le_of_ble_eq_true rfl) (Nat.le_of_ble_eq_true rfl) (Nat.le_of_ble_eq_true rfl) (pc' := 196) rfl (fun T41 v41 L41 X41 Q41 => ?_)
            obtain ⟨rfl, rfl, e41⟩ := Q41
            rw [List.append_nil] at X41
            show OwF p e below _ T41 (mkF m 196 #[.val (.long q0), .second, .val (.int q1), .val (.long q2), .second, .val (.int q3), .val (.int q4), .val (.int q5), .val (.int ((1 : Int32) + ((q4 &&& (2147483647 : Int32)) - ((q4 &&& (2147483647 : Int32)) / (100 : Int32)) * (100 : Int32)))), .val (.int (q5 &&& (3 : Int32))), .val (.long (own_val q0 q1)), .second, .val (.long (own_val q2 q3)), .second, .val (.long (own_lws q0 q1)), .second, .val (.long (own_lws q2 q3)), .second, .val (.long (own_min (own_lws q0 q1) (own_lws q2 q3))), .second, .val (.long (own_max (own_lws q0 q1) (own_lws q2 q3))), .second, .val (.ref a33), .val (.long (own_max (own_lws q0 q1) (own_lws q2 q3))), .second, .val (.long (own_lws q0 q1)), .second] [(.long (own_low (own_bkt (own_max (own_val q0 q1) (own_val q2 q3)))))])
            refine ow_lload C X41 at_196 rfl (pc' := 198) rfl ?_
            refine ow_lcmp C X41 at_198 (pc' := 199) rfl ?_
            refine ow_lif_ne C X41 at_199 (pcT := 206) (pc' := 202) (by decide) (by decide) rfl (fun b199 => ?_) (fun b199 => ?_)
            · refine ow_iconst (0 : Int32) C X41 at_206 (by decide) (pc' := 207) rfl ?_
              exact ow_retZ C X41 at_207 (Nat.le_of_ble_eq_true rfl) (Nat.le_of_ble_eq_true rfl) (Or.inl rfl) ⟨(show some (Value.int (0 : Int32)) = some (Value.int (own_law q0 q1 q2 q3 q4 q5)) from congrArg (fun z => some (Value.int z)) (by unfold own_law; rw [if_neg b85, if_neg b104, if_pos b129, if_pos b161, if_pos b175, if_neg b199])), Nn40⟩
            · refine ow_iconst (1 : Int32) C X41 at_202 (by decide) (pc' := 203) rfl ?_
              refine ow_goto C X41 at_203 (pcT := 207) (by decide) (by decide) ?_
              exact ow_retZ C X41 at_207 (Nat.le_of_ble_eq_true rfl) (Nat.le_of_ble_eq_true rfl) (Or.inr rfl) ⟨(show some (Value.int (1 : Int32)) = some (Value.int (own_law q0 q1 q2 q3 q4 q5)) from congrArg (fun z => some (Value.int z)) (by unfold own_law; rw [if_neg b85, if_neg b104, if_pos b129, if_pos b161, if_pos b175, if_pos b199])), Nn40⟩
          · refine ow_lload C X40 at_178 rfl (pc' := 180) rfl ?_
            refine ow_lstore C X40 at_180 (Ls' := #[.val (.long q0), .second, .val (.int q1), .val (.long q2), .second, .val (.int q3), .val (.int q4), .val (.int q5), .val (.int ((1 : Int32) + ((q4 &&& (2147483647 : Int32)) - ((q4 &&& (2147483647 : Int32)) / (100 : Int32)) * (100 : Int32)))), .val (.int (q5 &&& (3 : Int32))), .val (.long (own_val q0 q1)), .second, .val (.long (own_val q2 q3)), .second, .val (.long (own_lws q0 q1)), .second, .val (.long (own_lws q2 q3)), .second, .val (.long (own_min (own_lws q0 q1) (own_lws q2 q3))), .second, .val (.long (own_max (own_lws q0 q1) (own_lws q2 q3))), .second, .val (.ref a33), .val (.long (own_lws q0 q1)), .second, .val (.long (own_lws q0 q1)), .second]) rfl (pc' := 182) rfl ?_
            refine ow_goto C X40 at_182 (pcT := 189) (by decide) (by decide) ?_
            refine ow_aload C X40 at_189 rfl rfl (pc' := 191) rfl ?_
            refine ow_iload C X40 at_191 rfl (pc' := 193) rfl ?_
            refine ow_callV C X40 rfl (hw _ (List.mem_of_getElem? (i := 54) rfl)) (hw _ (List.mem_of_getElem? (i := 55) rfl)) (hw _ (List.mem_of_getElem? (i := 57) rfl)) rfl (hw _ (List.mem_of_getElem? (i := 56) rfl)) (hw _ (List.mem_of_getElem? (i := 23) rfl)) (hw _ (List.mem_of_getElem? (i := 58) rfl)) (by decide) E40 (rm_pct l Z a0 hw a33 ((1 : Int32) + ((q4 &&& (2147483647 : Int32)) - ((q4 &&& (2147483647 : Int32)) / (100 : Int32)) * (100 : Int32))) p40 [((own_bkt (own_val q0 q1)).toNatClampNeg), ((own_bkt (own_val q2 q3)).toNatClampNeg), ((own_bkt (own_val q0 q1)).toNatClampNeg)] (Int64.ofNat 2) ((own_bkt (own_val q0 q1)).toNatClampNeg) (own_bkt (own_val q0 q1)) (own_kb (own_nnval q0 q1)) (own_bkt_lt (own_nnval q0 q1)) (show ¬ (3 : Int64) = 0 from by decide) (own_rank ((1 : Int32) + ((q4 &&& (2147483647 : Int32)) - ((q4 &&& (2147483647 : Int32)) / (100 : Int32)) * (100 : Int32))) 3 2 (own_p_rng q4) (by decide) (by have hp := own_p_rng q4; have c1 := b161; have c2 := b175; have k33 : (33 : Int32).toInt = 33 := rfl; have k50 : (50 : Int32).toInt = 50 := rfl; have k66 : (66 : Int32).toInt = 66 := rfl; (try rw [Int32.lt_iff_toInt_lt] at c1); (try rw [Int32.lt_iff_toInt_lt] at c2); omega) (by decide)) (own_Slo (Nat.le_of_ble_eq_true rfl) (by decide) (fun j hj => by have km := own_Kmin (own_nnval q0 q1) (own_nnval q2 q3); have kx := own_Kmax (own_nnval q0 q1) (own_nnval q2 q3); rw [own_n3]; (repeat' split) <;> omega)) (own_Shi (Nat.le_of_ble_eq_true rfl) (by decide) (by have km := own_Kmin (own_nnval q0 q1) (own_nnval q2 q3); have kx := own_Kmax (own_nnval q0 q1) (own_nnval q2 q3); rw [own_n3]; (repeat' split) <;> omega)) T40.heap F40 G40 A40) pd_2 rfl (argsL := [(.int ((1 : Int32) + ((q4 &&& (2147483647 : Int32)) - ((q4 &&& (2147483647 : Int32)) / (100 : Int32)) * (100 : Int32))))]) (rest := []) rfl rfl at_193 (Nat.le_of_ble_eq_true rfl) (Nat.le_of_ble_eq_true rfl) (Nat.le_of_ble_eq_true rfl) (Nat.le_of_ble_eq_true rfl) (pc' := 196) rfl (fun T42 v42 L42 X42 Q42 => ?_)
            obtain ⟨rfl, rfl, e42⟩ := Q42
            rw [List.append_nil] at X42
            show OwF p e below _ T42 (mkF m 196 #[.val (.long q0), .second, .val (.int q1), .val (.long q2), .second, .val (.int q3), .val (.int q4), .val (.int q5), .val (.int ((1 : Int32) + ((q4 &&& (2147483647 : Int32)) - ((q4 &&& (2147483647 : Int32)) / (100 : Int32)) * (100 : Int32)))), .val (.int (q5 &&& (3 : Int32))), .val (.long (own_val q0 q1)), .second, .val (.long (own_val q2 q3)), .second, .val (.long (own_lws q0 q1)), .second, .val (.long (own_lws q2 q3)), .second, .val (.long (own_min (own_lws q0 q1) (own_lws q2 q3))), .second, .val (.long (own_max (own_lws q0 q1) (own_lws q2 q3))), .second, .val (.ref a33), .val (.long (own_lws q0 q1)), .second, .val (.long (own_lws q0 q1)), .second] [(.long (own_low (own_bkt (own_val q0 q1))))])
            refine ow_lload C X42 at_196 rfl (pc' := 198) rfl ?_
            refine ow_lcmp C X42 at_198 (pc' := 199) rfl ?_
            refine ow_lif_ne C X42 at_199 (pcT := 206) (pc' := 202) (by decide) (by decide) rfl (fun b199 => ?_) (fun b199 => ?_)
            · refine ow_iconst (0 : Int32) C X42 at_206 (by decide) (pc' := 207) rfl ?_
              exact ow_retZ C X42 at_207 (Nat.le_of_ble_eq_true rfl) (Nat.le_of_ble_eq_true rfl) (Or.inl rfl) ⟨(show some (Value.int (0 : Int32)) = some (Value.int (own_law q0 q1 q2 q3 q4 q5)) from congrArg (fun z => some (Value.int z)) (by unfold own_law; rw [if_neg b85, if_neg b104, if_pos b129, if_pos b161, if_neg b175, if_neg b199])), Nn40⟩
            · refine ow_iconst (1 : Int32) C X42 at_202 (by decide) (pc' := 203) rfl ?_
              refine ow_goto C X42 at_203 (pcT := 207) (by decide) (by decide) ?_
              exact ow_retZ C X42 at_207 (Nat.le_of_ble_eq_true rfl) (Nat.le_of_ble_eq_true rfl) (Or.inr rfl) ⟨(show some (Value.int (1 : Int32)) = some (Value.int (own_law q0 q1 q2 q3 q4 q5)) from congrArg (fun z => some (Value.int z)) (by unfold own_law; rw [if_neg b85, if_neg b104, if_pos b129, if_pos b161, if_neg b175, if_pos b199])), Nn40⟩
        · refine ow_lload C X40 at_164 rfl (pc' := 166) rfl ?_
          refine ow_lstore C X40 at_166 (Ls' := #[.val (.long q0), .second, .val (.int q1), .val (.long q2), .second, .val (.int q3), .val (.int q4), .val (.int q5), .val (.int ((1 : Int32) + ((q4 &&& (2147483647 : Int32)) - ((q4 &&& (2147483647 : Int32)) / (100 : Int32)) * (100 : Int32)))), .val (.int (q5 &&& (3 : Int32))), .val (.long (own_val q0 q1)), .second, .val (.long (own_val q2 q3)), .second, .val (.long (own_lws q0 q1)), .second, .val (.long (own_lws q2 q3)), .second, .val (.long (own_min (own_lws q0 q1) (own_lws q2 q3))), .second, .val (.long (own_max (own_lws q0 q1) (own_lws q2 q3))), .second, .val (.ref a33), .val (.long (own_min (own_lws q0 q1) (own_lws q2 q3))), .second, .val (.long (own_lws q0 q1)), .second]) rfl (pc' := 168) rfl ?_
          refine ow_goto C X40 at_168 (pcT := 189) (by decide) (by decide) ?_
          refine ow_aload C X40 at_189 rfl rfl (pc' := 191) rfl ?_
          refine ow_iload C X40 at_191 rfl (pc' := 193) rfl ?_
          refine ow_callV C X40 rfl (hw _ (List.mem_of_getElem? (i := 54) rfl)) (hw _ (List.mem_of_getElem? (i := 55) rfl)) (hw _ (List.mem_of_getElem? (i := 57) rfl)) rfl (hw _ (List.mem_of_getElem? (i := 56) rfl)) (hw _ (List.mem_of_getElem? (i := 23) rfl)) (hw _ (List.mem_of_getElem? (i := 58) rfl)) (by decide) E40 (rm_pct l Z a0 hw a33 ((1 : Int32) + ((q4 &&& (2147483647 : Int32)) - ((q4 &&& (2147483647 : Int32)) / (100 : Int32)) * (100 : Int32))) p40 [((own_bkt (own_val q0 q1)).toNatClampNeg), ((own_bkt (own_val q2 q3)).toNatClampNeg), ((own_bkt (own_val q0 q1)).toNatClampNeg)] (Int64.ofNat 1) ((own_bkt (own_min (own_val q0 q1) (own_val q2 q3))).toNatClampNeg) (own_bkt (own_min (own_val q0 q1) (own_val q2 q3))) (own_kb (own_nnmin (own_nnval q0 q1) (own_nnval q2 q3))) (own_bkt_lt (own_nnmin (own_nnval q0 q1) (own_nnval q2 q3))) (show ¬ (3 : Int64) = 0 from by decide) (own_rank ((1 : Int32) + ((q4 &&& (2147483647 : Int32)) - ((q4 &&& (2147483647 : Int32)) / (100 : Int32)) * (100 : Int32))) 3 1 (own_p_rng q4) (by decide) (by have hp := own_p_rng q4; have c1 := b161; have k33 : (33 : Int32).toInt = 33 := rfl; have k50 : (50 : Int32).toInt = 50 := rfl; have k66 : (66 : Int32).toInt = 66 := rfl; (try rw [Int32.lt_iff_toInt_lt] at c1); (try rw [Int32.lt_iff_toInt_lt] at c2); omega) (by decide)) (own_Slo (Nat.le_of_ble_eq_true rfl) (by decide) (fun j hj => by have km := own_Kmin (own_nnval q0 q1) (own_nnval q2 q3); have kx := own_Kmax (own_nnval q0 q1) (own_nnval q2 q3); rw [own_n3]; (repeat' split) <;> omega)) (own_Shi (Nat.le_of_ble_eq_true rfl) (by decide) (by have km := own_Kmin (own_nnval q0 q1) (own_nnval q2 q3); have kx := own_Kmax (own_nnval q0 q1) (own_nnval q2 q3); rw [own_n3]; (repeat' split) <;> omega)) T40.heap F40 G40 A40) pd_2 rfl (argsL := [(.int ((1 : Int32) + ((q4 &&& (2147483647 : Int32)) - ((q4 &&& (2147483647 : Int32)) / (100 : Int32)) * (100 : Int32))))]) (rest := []) rfl rfl at_193 (Nat.le_of_ble_eq_true rfl) (Nat.le_of_ble_eq_true rfl) (Nat.le_of_ble_eq_true rfl) (Nat.le_of_ble_eq_true rfl) (pc' := 196) rfl (fun T43 v43 L43 X43 Q43 => ?_)
          obtain ⟨rfl, rfl, e43⟩ := Q43
          rw [List.append_nil] at X43
          show OwF p e below _ T43 (mkF m 196 #[.val (.long q0), .second, .val (.int q1), .val (.long q2), .second, .val (.int q3), .val (.int q4), .val (.int q5), .val (.int ((1 : Int32) + ((q4 &&& (2147483647 : Int32)) - ((q4 &&& (2147483647 : Int32)) / (100 : Int32)) * (100 : Int32)))), .val (.int (q5 &&& (3 : Int32))), .val (.long (own_val q0 q1)), .second, .val (.long (own_val q2 q3)), .second, .val (.long (own_lws q0 q1)), .second, .val (.long (own_lws q2 q3)), .second, .val (.long (own_min (own_lws q0 q1) (own_lws q2 q3))), .second, .val (.long (own_max (own_lws q0 q1) (own_lws q2 q3))), .second, .val (.ref a33), .val (.long (own_min (own_lws q0 q1) (own_lws q2 q3))), .second, .val (.long (own_lws q0 q1)), .second] [(.long (own_low (own_bkt (own_min (own_val q0 q1) (own_val q2 q3)))))])
          refine ow_lload C X43 at_196 rfl (pc' := 198) rfl ?_
          refine ow_lcmp C X43 at_198 (pc' := 199) rfl ?_
          refine ow_lif_ne C X43 at_199 (pcT := 206) (pc' := 202) (by decide) (by decide) rfl (fun b199 => ?_) (fun b199 => ?_)
          · refine ow_iconst (0 : Int32) C X43 at_206 (by decide) (pc' := 207) rfl ?_
            exact ow_retZ C X43 at_207 (Nat.le_of_ble_eq_true rfl) (Nat.le_of_ble_eq_true rfl) (Or.inl rfl) ⟨(show some (Value.int (0 : Int32)) = some (Value.int (own_law q0 q1 q2 q3 q4 q5)) from congrArg (fun z => some (Value.int z)) (by unfold own_law; rw [if_neg b85, if_neg b104, if_pos b129, if_neg b161, if_neg b199])), Nn40⟩
          · refine ow_iconst (1 : Int32) C X43 at_202 (by decide) (pc' := 203) rfl ?_
            refine ow_goto C X43 at_203 (pcT := 207) (by decide) (by decide) ?_
            exact ow_retZ C X43 at_207 (Nat.le_of_ble_eq_true rfl) (Nat.le_of_ble_eq_true rfl) (Or.inr rfl) ⟨(show some (Value.int (1 : Int32)) = some (Value.int (own_law q0 q1 q2 q3 q4 q5)) from congrArg (fun z => some (Value.int z)) (by unfold own_law; rw [if_neg b85, if_neg b104, if_pos b129, if_neg b161, if_pos b199])), Nn40⟩
    · refine ow_iload C X37 at_107 rfl (pc' := 109) rfl ?_
      refine ow_bipush (50 : Int32) C X37 at_109 (by decide) (pc' := 111) rfl ?_
      refine ow_icmp_gt C X37 at_111 (pcT := 119) (pc' := 114) (by decide) (by decide) rfl (fun b111 => ?_) (fun b111 => ?_)
      · refine ow_lload C X37 at_119 rfl (pc' := 121) rfl ?_
        refine ow_lstore C X37 at_121 (Ls' := #[.val (.long q0), .second, .val (.int q1), .val (.long q2), .second, .val (.int q3), .val (.int q4), .val (.int q5), .val (.int ((1 : Int32) + ((q4 &&& (2147483647 : Int32)) - ((q4 &&& (2147483647 : Int32)) / (100 : Int32)) * (100 : Int32)))), .val (.int (q5 &&& (3 : Int32))), .val (.long (own_val q0 q1)), .second, .val (.long (own_val q2 q3)), .second, .val (.long (own_lws q0 q1)), .second, .val (.long (own_lws q2 q3)), .second, .val (.long (own_min (own_lws q0 q1) (own_lws q2 q3))), .second, .val (.long (own_max (own_lws q0 q1) (own_lws q2 q3))), .second, .val (.ref a33), .val (.long (own_max (own_lws q0 q1) (own_lws q2 q3))), .second, .unset, .unset]) rfl (pc' := 123) rfl ?_
        refine ow_goto C X37 at_123 (pcT := 189) (by decide) (by decide) ?_
        refine ow_aload C X37 at_189 rfl rfl (pc' := 191) rfl ?_
        refine ow_iload C X37 at_191 rfl (pc' := 193) rfl ?_
        refine ow_callV C X37 rfl (hw _ (List.mem_of_getElem? (i := 54) rfl)) (hw _ (List.mem_of_getElem? (i := 55) rfl)) (hw _ (List.mem_of_getElem? (i := 57) rfl)) rfl (hw _ (List.mem_of_getElem? (i := 56) rfl)) (hw _ (List.mem_of_getElem? (i := 23) rfl)) (hw _ (List.mem_of_getElem? (i := 58) rfl)) (by decide) E37 (rm_pct l Z a0 hw a33 ((1 : Int32) + ((q4 &&& (2147483647 : Int32)) - ((q4 &&& (2147483647 : Int32)) / (100 : Int32)) * (100 : Int32))) p37 [((own_bkt (own_val q2 q3)).toNatClampNeg), ((own_bkt (own_val q0 q1)).toNatClampNeg)] (Int64.ofNat 2) ((own_bkt (own_max (own_val q0 q1) (own_val q2 q3))).toNatClampNeg) (own_bkt (own_max (own_val q0 q1) (own_val q2 q3))) (own_kb (own_nnmax (own_nnval q0 q1) (own_nnval q2 q3))) (own_bkt_lt (own_nnmax (own_nnval q0 q1) (own_nnval q2 q3))) (show ¬ (2 : Int64) = 0 from by decide) (own_rank ((1 : Int32) + ((q4 &&& (2147483647 : Int32)) - ((q4 &&& (2147483647 : Int32)) / (100 : Int32)) * (100 : Int32))) 2 2 (own_p_rng q4) (by decide) (by have hp := own_p_rng q4; have c1 := b111; have k33 : (33 : Int32).toInt = 33 := rfl; have k50 : (50 : Int32).toInt = 50 := rfl; have k66 : (66 : Int32).toInt = 66 := rfl; (try rw [Int32.lt_iff_toInt_lt] at c1); (try rw [Int32.lt_iff_toInt_lt] at c2); omega) (by decide)) (own_Slo (Nat.le_of_ble_eq_true rfl) (by decide) (fun j hj => by have km := own_Kmin (own_nnval q0 q1) (own_nnval q2 q3); have kx := own_Kmax (own_nnval q0 q1) (own_nnval q2 q3); rw [own_n2]; (repeat' split) <;> omega)) (own_Shi (Nat.le_of_ble_eq_true rfl) (by decide) (by have km := own_Kmin (own_nnval q0 q1) (own_nnval q2 q3); have kx := own_Kmax (own_nnval q0 q1) (own_nnval q2 q3); rw [own_n2]; (repeat' split) <;> omega)) T37.heap F37 G37 A37) pd_2 rfl (argsL := [(.int ((1 : Int32) + ((q4 &&& (2147483647 : Int32)) - ((q4 &&& (2147483647 : Int32)) / (100 : Int32)) * (100 : Int32))))]) (rest := []) rfl rfl at_193 (Nat.le_of_ble_eq_true rfl) (Nat.le_of_ble_eq_true rfl) (Nat.le_of_ble_eq_true rfl) (Nat.le_of_ble_eq_true rfl) (pc' := 196) rfl (fun T38 v38 L38 X38 Q38 => ?_)
        obtain ⟨rfl, rfl, e38⟩ := Q38
        rw [List.append_nil] at X38
        show OwF p e below _ T38 (mkF m 196 #[.val (.long q0), .second, .val (.int q1), .val (.long q2), .second, .val (.int q3), .val (.int q4), .val (.int q5), .val (.int ((1 : Int32) + ((q4 &&& (2147483647 : Int32)) - ((q4 &&& (2147483647 : Int32)) / (100 : Int32)) * (100 : Int32)))), .val (.int (q5 &&& (3 : Int32))), .val (.long (own_val q0 q1)), .second, .val (.long (own_val q2 q3)), .second, .val (.long (own_lws q0 q1)), .second, .val (.long (own_lws q2 q3)), .second, .val (.long (own_min (own_lws q0 q1) (own_lws q2 q3))), .second, .val (.long (own_max (own_lws q0 q1) (own_lws q2 q3))), .second, .val (.ref a33), .val (.long (own_max (own_lws q0 q1) (own_lws q2 q3))), .second, .unset, .unset] [(.long (own_low (own_bkt (own_max (own_val q0 q1) (own_val q2 q3)))))])
        refine ow_lload C X38 at_196 rfl (pc' := 198) rfl ?_
        refine ow_lcmp C X38 at_198 (pc' := 199) rfl ?_
        refine ow_lif_ne C X38 at_199 (pcT := 206) (pc' := 202) (by decide) (by decide) rfl (fun b199 => ?_) (fun b199 => ?_)
        · refine ow_iconst (0 : Int32) C X38 at_206 (by decide) (pc' := 207) rfl ?_
          exact ow_retZ C X38 at_207 (Nat.le_of_ble_eq_true rfl) (Nat.le_of_ble_eq_true rfl) (Or.inl rfl) ⟨(show some (Value.int (0 : Int32)) = some (Value.int (own_law q0 q1 q2 q3 q4 q5)) from congrArg (fun z => some (Value.int z)) (by unfold own_law; rw [if_neg b85, if_pos b104, if_pos b111, if_neg b199])), Nn37⟩
        · refine ow_iconst (1 : Int32) C X38 at_202 (by decide) (pc' := 203) rfl ?_
          refine ow_goto C X38 at_203 (pcT := 207) (by decide) (by decide) ?_
          exact ow_retZ C X38 at_207 (Nat.le_of_ble_eq_true rfl) (Nat.le_of_ble_eq_true rfl) (Or.inr rfl) ⟨(show some (Value.int (1 : Int32)) = some (Value.int (own_law q0 q1 q2 q3 q4 q5)) from congrArg (fun z => some (Value.int z)) (by unfold own_law; rw [if_neg b85, if_pos b104, if_pos b111, if_pos b199])), Nn37⟩
      · refine ow_lload C X37 at_114 rfl (pc' := 116) rfl ?_
        refine ow_goto C X37 at_116 (pcT := 121) (by decide) (by decide) ?_
        refine ow_lstore C X37 at_121 (Ls' := #[.val (.long q0), .second, .val (.int q1), .val (.long q2), .second, .val (.int q3), .val (.int q4), .val (.int q5), .val (.int ((1 : Int32) + ((q4 &&& (2147483647 : Int32)) - ((q4 &&& (2147483647 : Int32)) / (100 : Int32)) * (100 : Int32)))), .val (.int (q5 &&& (3 : Int32))), .val (.long (own_val q0 q1)), .second, .val (.long (own_val q2 q3)), .second, .val (.long (own_lws q0 q1)), .second, .val (.long (own_lws q2 q3)), .second, .val (.long (own_min (own_lws q0 q1) (own_lws q2 q3))), .second, .val (.long (own_max (own_lws q0 q1) (own_lws q2 q3))), .second, .val (.ref a33), .val (.long (own_min (own_lws q0 q1) (own_lws q2 q3))), .second, .unset, .unset]) rfl (pc' := 123) rfl ?_
        refine ow_goto C X37 at_123 (pcT := 189) (by decide) (by decide) ?_
        refine ow_aload C X37 at_189 rfl rfl (pc' := 191) rfl ?_
        refine ow_iload C X37 at_191 rfl (pc' := 193) rfl ?_
        refine ow_callV C X37 rfl (hw _ (List.mem_of_getElem? (i := 54) rfl)) (hw _ (List.mem_of_getElem? (i := 55) rfl)) (hw _ (List.mem_of_getElem? (i := 57) rfl)) rfl (hw _ (List.mem_of_getElem? (i := 56) rfl)) (hw _ (List.mem_of_getElem? (i := 23) rfl)) (hw _ (List.mem_of_getElem? (i := 58) rfl)) (by decide) E37 (rm_pct l Z a0 hw a33 ((1 : Int32) + ((q4 &&& (2147483647 : Int32)) - ((q4 &&& (2147483647 : Int32)) / (100 : Int32)) * (100 : Int32))) p37 [((own_bkt (own_val q2 q3)).toNatClampNeg), ((own_bkt (own_val q0 q1)).toNatClampNeg)] (Int64.ofNat 1) ((own_bkt (own_min (own_val q0 q1) (own_val q2 q3))).toNatClampNeg) (own_bkt (own_min (own_val q0 q1) (own_val q2 q3))) (own_kb (own_nnmin (own_nnval q0 q1) (own_nnval q2 q3))) (own_bkt_lt (own_nnmin (own_nnval q0 q1) (own_nnval q2 q3))) (show ¬ (2 : Int64) = 0 from by decide) (own_rank ((1 : Int32) + ((q4 &&& (2147483647 : Int32)) - ((q4 &&& (2147483647 : Int32)) / (100 : Int32)) * (100 : Int32))) 2 1 (own_p_rng q4) (by decide) (by have hp := own_p_rng q4; have c1 := b111; have k33 : (33 : Int32).toInt = 33 := rfl; have k50 : (50 : Int32).toInt = 50 := rfl; have k66 : (66 : Int32).toInt = 66 := rfl; (try rw [Int32.lt_iff_toInt_lt] at c1); (try rw [Int32.lt_iff_toInt_lt] at c2); omega) (by decide)) (own_Slo (Nat.le_of_ble_eq_true rfl) (by decide) (fun j hj => by have km := own_Kmin (own_nnval q0 q1) (own_nnval q2 q3); have kx := own_Kmax (own_nnval q0 q1) (own_nnval q2 q3); rw [own_n2]; (repeat' split) <;> omega)) (own_Shi (Nat.le_of_ble_eq_true rfl) (by decide) (by have km := own_Kmin (own_nnval q0 q1) (own_nnval q2 q3); have kx := own_Kmax (own_nnval q0 q1) (own_nnval q2 q3); rw [own_n2]; (repeat' split) <;> omega)) T37.heap F37 G37 A37) pd_2 rfl (argsL := [(.int ((1 : Int32) + ((q4 &&& (2147483647 : Int32)) - ((q4 &&& (2147483647 : Int32)) / (100 : Int32)) * (100 : Int32))))]) (rest := []) rfl rfl at_193 (Nat.le_of_ble_eq_true rfl) (Nat.le_of_ble_eq_true rfl) (Nat.le_of_ble_eq_true rfl) (Nat.le_of_ble_eq_true rfl) (pc' := 196) rfl (fun T39 v39 L39 X39 Q39 => ?_)
        obtain ⟨rfl, rfl, e39⟩ := Q39
        rw [List.append_nil] at X39
        show OwF p e below _ T39 (mkF m 196 #[.val (.long q0), .second, .val (.int q1), .val (.long q2), .second, .val (.int q3), .val (.int q4), .val (.int q5), .val (.int ((1 : Int32) + ((q4 &&& (2147483647 : Int32)) - ((q4 &&& (2147483647 : Int32)) / (100 : Int32)) * (100 : Int32)))), .val (.int (q5 &&& (3 : Int32))), .val (.long (own_val q0 q1)), .second, .val (.long (own_val q2 q3)), .second, .val (.long (own_lws q0 q1)), .second, .val (.long (own_lws q2 q3)), .second, .val (.long (own_min (own_lws q0 q1) (own_lws q2 q3))), .second, .val (.long (own_max (own_lws q0 q1) (own_lws q2 q3))), .second, .val (.ref a33), .val (.long (own_min (own_lws q0 q1) (own_lws q2 q3))), .second, .unset, .unset] [(.long (own_low (own_bkt (own_min (own_val q0 q1) (own_val q2 q3)))))])
        refine ow_lload C X39 at_196 rfl (pc' := 198) rfl ?_
        refine ow_lcmp C X39 at_198 (pc' := 199) rfl ?_
        refine ow_lif_ne C X39 at_199 (pcT := 206) (pc' := 202) (by decide) (by decide) rfl (fun b199 => ?_) (fun b199 => ?_)
        · refine ow_iconst (0 : Int32) C X39 at_206 (by decide) (pc' := 207) rfl ?_
          exact ow_retZ C X39 at_207 (Nat.le_of_ble_eq_true rfl) (Nat.le_of_ble_eq_true rfl) (Or.inl rfl) ⟨(show some (Value.int (0 : Int32)) = some (Value.int (own_law q0 q1 q2 q3 q4 q5)) from congrArg (fun z => some (Value.int z)) (by unfold own_law; rw [if_neg b85, if_pos b104, if_neg b111, if_neg b199])), Nn37⟩
        · refine ow_iconst (1 : Int32) C X39 at_202 (by decide) (pc' := 203) rfl ?_
          refine ow_goto C X39 at_203 (pcT := 207) (by decide) (by decide) ?_
          exact ow_retZ C X39 at_207 (Nat.le_of_ble_eq_true rfl) (Nat.le_of_ble_eq_true rfl) (Or.inr rfl) ⟨(show some (Value.int (1 : Int32)) = some (Value.int (own_law q0 q1 q2 q3 q4 q5)) from congrArg (fun z => some (Value.int z)) (by unfold own_law; rw [if_neg b85, if_pos b104, if_neg b111, if_pos b199])), Nn37⟩
  · refine ow_lload C X35 at_88 rfl (pc' := 90) rfl ?_
    refine ow_lstore C X35 at_90 (Ls' := #[.val (.long q0), .second, .val (.int q1), .val (.long q2), .second, .val (.int q3), .val (.int q4), .val (.int q5), .val (.int ((1 : Int32) + ((q4 &&& (2147483647 : Int32)) - ((q4 &&& (2147483647 : Int32)) / (100 : Int32)) * (100 : Int32)))), .val (.int (q5 &&& (3 : Int32))), .val (.long (own_val q0 q1)), .second, .val (.long (own_val q2 q3)), .second, .val (.long (own_lws q0 q1)), .second, .val (.long (own_lws q2 q3)), .second, .val (.long (own_min (own_lws q0 q1) (own_lws q2 q3))), .second, .val (.long (own_max (own_lws q0 q1) (own_lws q2 q3))), .second, .val (.ref a33), .val (.long (own_lws q0 q1)), .second, .unset, .unset]) rfl (pc' := 92) rfl ?_
    refine ow_goto C X35 at_92 (pcT := 189) (by decide) (by decide) ?_
    refine ow_aload C X35 at_189 rfl rfl (pc' := 191) rfl ?_
    refine ow_iload C X35 at_191 rfl (pc' := 193) rfl ?_
    refine ow_callV C X35 rfl (hw _ (List.mem_of_getElem? (i := 54) rfl)) (hw _ (List.mem_of_getElem? (i := 55) rfl)) (hw _ (List.mem_of_getElem? (i := 57) rfl)) rfl (hw _ (List.mem_of_getElem? (i := 56) rfl)) (hw _ (List.mem_of_getElem? (i := 23) rfl)) (hw _ (List.mem_of_getElem? (i := 58) rfl)) (by decide) E35 (rm_pct l Z a0 hw a33 ((1 : Int32) + ((q4 &&& (2147483647 : Int32)) - ((q4 &&& (2147483647 : Int32)) / (100 : Int32)) * (100 : Int32))) p35 [((own_bkt (own_val q0 q1)).toNatClampNeg)] (Int64.ofNat 1) ((own_bkt (own_val q0 q1)).toNatClampNeg) (own_bkt (own_val q0 q1)) (own_kb (own_nnval q0 q1)) (own_bkt_lt (own_nnval q0 q1)) (show ¬ (1 : Int64) = 0 from by decide) (own_rank ((1 : Int32) + ((q4 &&& (2147483647 : Int32)) - ((q4 &&& (2147483647 : Int32)) / (100 : Int32)) * (100 : Int32))) 1 1 (own_p_rng q4) (by decide) (by have hp := own_p_rng q4; have k33 : (33 : Int32).toInt = 33 := rfl; have k50 : (50 : Int32).toInt = 50 := rfl; have k66 : (66 : Int32).toInt = 66 := rfl; (try rw [Int32.lt_iff_toInt_lt] at c1); (try rw [Int32.lt_iff_toInt_lt] at c2); omega) (by decide)) (own_Slo (Nat.le_of_ble_eq_true rfl) (by decide) (fun j hj => by have km := own_Kmin (own_nnval q0 q1) (own_nnval q2 q3); have kx := own_Kmax (own_nnval q0 q1) (own_nnval q2 q3); rw [own_n1]; (repeat' split) <;> omega)) (own_Shi (Nat.le_of_ble_eq_true rfl) (by decide) (by have km := own_Kmin (own_nnval q0 q1) (own_nnval q2 q3); have kx := own_Kmax (own_nnval q0 q1) (own_nnval q2 q3); rw [own_n1]; (repeat' split) <;> omega)) T35.heap F35 G35 A35) pd_2 rfl (argsL := [(.int ((1 : Int32) + ((q4 &&& (2147483647 : Int32)) - ((q4 &&& (2147483647 : Int32)) / (100 : Int32)) * (100 : Int32))))]) (rest := []) rfl rfl at_193 (Nat.le_of_ble_eq_true rfl) (Nat.le_of_ble_eq_true rfl) (Nat.le_of_ble_eq_true rfl) (Nat.le_of_ble_eq_true rfl) (pc' := 196) rfl (fun T36 v36 L36 X36 Q36 => ?_)
    obtain ⟨rfl, rfl, e36⟩ := Q36
    rw [List.append_nil] at X36
    show OwF p e below _ T36 (mkF m 196 #[.val (.long q0), .second, .val (.int q1), .val (.long q2), .second, .val (.int q3), .val (.int q4), .val (.int q5), .val (.int ((1 : Int32) + ((q4 &&& (2147483647 : Int32)) - ((q4 &&& (2147483647 : Int32)) / (100 : Int32)) * (100 : Int32)))), .val (.int (q5 &&& (3 : Int32))), .val (.long (own_val q0 q1)), .second, .val (.long (own_val q2 q3)), .second, .val (.long (own_lws q0 q1)), .second, .val (.long (own_lws q2 q3)), .second, .val (.long (own_min (own_lws q0 q1) (own_lws q2 q3))), .second, .val (.long (own_max (own_lws q0 q1) (own_lws q2 q3))), .second, .val (.ref a33), .val (.long (own_lws q0 q1)), .second, .unset, .unset] [(.long (own_low (own_bkt (own_val q0 q1))))])
    refine ow_lload C X36 at_196 rfl (pc' := 198) rfl ?_
    refine ow_lcmp C X36 at_198 (pc' := 199) rfl ?_
    refine ow_lif_ne C X36 at_199 (pcT := 206) (pc' := 202) (by decide) (by decide) rfl (fun b199 => ?_) (fun b199 => ?_)
    · refine ow_iconst (0 : Int32) C X36 at_206 (by decide) (pc' := 207) rfl ?_
      exact ow_retZ C X36 at_207 (Nat.le_of_ble_eq_true rfl) (Nat.le_of_ble_eq_true rfl) (Or.inl rfl) ⟨(show some (Value.int (0 : Int32)) = some (Value.int (own_law q0 q1 q2 q3 q4 q5)) from congrArg (fun z => some (Value.int z)) (by unfold own_law; rw [if_pos b85, if_neg b199])), Nn35⟩
    · refine ow_iconst (1 : Int32) C X36 at_202 (by decide) (pc' := 203) rfl ?_
      refine ow_goto C X36 at_203 (pcT := 207) (by decide) (by decide) ?_
      exact ow_retZ C X36 at_207 (Nat.le_of_ble_eq_true rfl) (Nat.le_of_ble_eq_true rfl) (Or.inr rfl) ⟨(show some (Value.int (1 : Int32)) = some (Value.int (own_law q0 q1 q2 q3 q4 q5)) from congrArg (fun z => some (Value.int z)) (by unfold own_law; rw [if_pos b85, if_pos b199])), Nn35⟩
theorem own_law_true (q0 : Int64) (q1 : Int32) (q2 : Int64) (q3 : Int32) (q4 : Int32) (q5 : Int32) : own_law q0 q1 q2 q3 q4 q5 = 1 := by
  unfold own_law
  simp only [own_f_min _ _ (own_nnval q0 q1) (own_nnval q2 q3), own_f_max _ _ (own_nnval q0 q1) (own_nnval q2 q3), (own_val_is q0 q1).2, (own_val_is q2 q3).2, if_true, ite_self]
set_option maxRecDepth 65536 in
set_option maxHeartbeats 40000000 in
theorem comes_1 {Post : Tables → Env → Array Value → State → Outcome → State → Prop} (hpost : ∀ tb e args s v u, (limb_1_1.after args s (.returned v) u = true ∧ limb_1_2.after args s (.returned v) u = true ∧ True) → FrameEnd s (.returned v) u (Jvm.fieldLocs frame_1_writes args s ++ Jvm.arrayLocs frame_1_arrays args s ++ Jvm.staticLocs frame_1_statics s) 16 110720 → Post tb e args s (.returned v) u) :
    ArmFor flags0 classFile x code maxLocals ret World_1 tables_1 room_1 Calls_1 rest_1 Pre_1 Post := by
  intro l hfl _ _ p e ha hc hk s m args below hf hA hF happ hP
  obtain ⟨hcalls, hrest, hpre⟩ := hP
  obtain ⟨-, -, -, hnamed, -, -, -, hat⟩ := (Spec.applies_iff hf).mp happ
  obtain ⟨hg, hn⟩ := and_e (Cond.before_iff.mp (show (Jvm.Cond.and given_1 narrow_1).before args s = true from hpre))
  obtain ⟨h1, hg0⟩ := and_e hg
  obtain ⟨ha0, hg1⟩ := and_e hg0
  obtain ⟨ha1, hg2⟩ := and_e hg1
  obtain ⟨ha2, hg3⟩ := and_e hg2
  obtain ⟨ha3, hg4⟩ := and_e hg3
  obtain ⟨ha4, hg5⟩ := and_e hg4
  obtain ⟨w0, w1, w2, w3, w4, w5, rfl⟩ : ∃ w0 w1 w2 w3 w4 w5 : Value, args = #[w0, w1, w2, w3, w4, w5] := by
    have hs : args.size = 6 := by simpa [Cond.value, given_1] using h1
    obtain ⟨L⟩ := args
    match L, hs with
    | [w0, w1, w2, w3, w4, w5], _ => exact ⟨w0, w1, w2, w3, w4, w5, rfl⟩
  have hw := fun d (hd : d ∈ tables_1) => atoms_spec (ws := Jvm.Cond.code x code maxLocals ret :: tables_1) hat d (List.mem_cons_of_mem _ hd)
  obtain ⟨q0, ev0⟩ := isL_v ha0
  obtain rfl : w0 = (.long q0) := Option.some.inj ev0
  obtain ⟨q1, ev1⟩ := is_v ha1
  obtain rfl : w1 = (.int q1) := Option.some.inj ev1
  obtain ⟨q2, ev2⟩ := isL_v ha2
  obtain rfl : w2 = (.long q2) := Option.some.inj ev2
  obtain ⟨q3, ev3⟩ := is_v ha3
  obtain rfl : w3 = (.int q3) := Option.some.inj ev3
  obtain ⟨q4, ev4⟩ := is_v ha4
  obtain rfl : w4 = (.int q4) := Option.some.inj ev4
  obtain ⟨q5, ev5⟩ := is_v hg5
  obtain rfl : w5 = (.int q5) := Option.some.inj ev5
  obtain ⟨n, o, h1, h2, h3, _, L, rfl, ⟨rfl, N⟩, hq⟩ := rm_law l s _ hw q0 q1 q2 q3 q4 q5 s.heap s.heap.size (Nat.le_refl _) tables_1 p e ha hc hk s m _ below hf ((Spec.applies_iff_loose hf).mp happ).1 ⟨rfl, State.Warmed39.refl s, rfl⟩ trivial
  rw [own_law_true q0 q1 q2 q3 q4 q5] at *
  refine ⟨n, _, h1, h2, h3, hpost _ _ _ _ _ _ ⟨Cond.after_iff.mpr rfl, Cond.after_iff.mpr (eq_i res_at (Term.int_eval (1)) rfl), trivial⟩ ⟨hq.1, hq.2.1, (hq.2.2.sift fun y hy => Or.inr (N y hy)).mono (by decide) (by decide)⟩⟩
theorem main_1_1 : Claimed_1_1 := comes_1 fun _ _ _ _ _ _ h hF => ⟨h.1, hF⟩
theorem main_1_2 : Claimed_1_2 := comes_1 fun _ _ _ _ _ _ h hF => ⟨h.2.1, hF⟩
end Jvm.Pilot.@@N@@
namespace Jvm.Pilot.@@N@@
open Jvm Jvm.ClassFile Sem Op Lib Jvm.Free Jvm.Stand Jvm.Pilot.@@N@@.Jvm.D
/-! MADE BY PROGRAM (witnessworld.py) out of the Statement's table words and the real class files: 18 classes; the members and pool entries that the words name. The judged class is class 1, her method 4. -/
namespace start1
open Jvm.ClassFile
def u (s : String) : CpInfo := .utf8 (stringToUtf16 s)
/-- a pool by its gaps: so many unusable entries, then the entry; so many at the end -/
def gap : Nat → List CpInfo → List CpInfo
  | 0, r => r
  | n + 1, r => .unusable :: gap n r
def poolList (es : List (Nat × CpInfo)) (last : Nat) : List CpInfo := es.foldr (fun e r => gap e.1 (e.2 :: r)) (gap last [])
def pool (es : List (Nat × CpInfo)) (last : Nat) : Array CpInfo := ⟨poolList es last⟩
def fileOf (pool : Array CpInfo) (this : Nat) (attrs : Array Attribute := #[]) (ms : Array MethodInfo := #[]) (fl : Nat := 33) (sup : Nat := 0) (ifs : Array Nat := #[]) (fds : Array FieldInfo := #[]) : ClassFile where
  minorVersion := 0
  majorVersion := 65
  constantPool := pool
  accessFlags := fl
  thisClass := this
  superClass := sup
  interfaces := ifs
  fields := fds
  methods := ms
  attributes := attrs
def plain (name : String) (sup : Option ClassId) : Class where
  name := name
  kind := .ordinary
  loader := none
  accessFlags := 33
  super := sup
  interfaces := #[]
  cf := none
  fields := #[]
  methods := #[]
  instanceTypes := #[]
  staticTypes := #[]
  resolved := #[]
  callSites := []
  init := .initialized
  statics := none
  mirror := none

def pool0 : Array CpInfo := pool [(5, u "<init>"), (0, u "()V"), (1, .class_ 10), (1, u "java/lang/Object")] 113

def k0c0 : Code := { maxStack := 0, maxLocals := 1, code := object_method_1_code, exceptionTable := #[], attributes := #[] }
def k0m0 : Method := { name := "<init>", desc := "()V", sig := { parameters := [], returnType := none }, accessFlags := 1, code := some k0c0 }
/-- java/lang/Object -/
def k0 : Class := { plain "java/lang/Object" none with
  accessFlags := 33
  interfaces := #[]
  cf := some (fileOf pool0 8 #[] #[{ accessFlags := 1, nameIndex := 5, descriptorIndex := 6, attributes := #[] }] 33 0 #[] #[])
  fields := #[]
  methods := #[k0m0]
  instanceTypes := #[]
  staticTypes := #[]
  resolved := Array.replicate 124 none
  statics := none }

def pool1 : Array CpInfo := pool [(2, .class_ 4), (0, .nameAndType 5 6), (0, u "java/lang/Object"), (0, u "<init>"), (0, u "()V"), (0, .integer 2147483647), (0, .methodref 9 10), (0, .class_ 11), (0, .nameAndType 12 13), (0, u "com/example/topsail/topsail/cli/LatencyHistogramPercentilePinLaw"), (0, u "shift"), (0, u "(I)I"), (0, .long 2047), (1, .long 1024), (1, .long 1023), (1, .methodref 9 21), (0, .nameAndType 22 23), (0, u "value"), (0, u "(JI)J"), (0, .methodref 9 25), (0, .nameAndType 26 23), (0, u "lowest"), (0, .methodref 28 29), (0, .class_ 30), (0, .nameAndType 31 32), (0, u "java/lang/Math"), (0, u "min"), (0, u "(JJ)J"), (0, .methodref 28 34), (0, .nameAndType 35 32), (0, u "max"), (0, .class_ 37), (0, u "com/example/topsail/topsail/cli/LatencyHistogram"), (0, .methodref 36 3), (0, .methodref 36 40), (0, .nameAndType 41 42), (0, u "record"), (0, u "(J)V"), (0, .methodref 36 44), (0, .nameAndType 45 46), (0, u "percentile"), (0, u "(I)J"), (3, u "law"), (0, u "(JIJIII)Z")] 2

def k1m0 : Method := { name := "<init>", desc := "()V", sig := { parameters := [], returnType := none }, accessFlags := 1, code := none }
def k1c1 : Code := { maxStack := 2, maxLocals := 1, code := method_2_code, exceptionTable := #[], attributes := #[] }
def k1m1 : Method := { name := "shift", desc := "(I)I", sig := { parameters := [.int], returnType := some .int }, accessFlags := 10, code := some k1c1 }
def k1c2 : Code := { maxStack := 6, maxLocals := 8, code := method_3_code, exceptionTable := #[], attributes := #[] }
def k1m2 : Method := { name := "value", desc := "(JI)J", sig := { parameters := [.long, .int], returnType := some .long }, accessFlags := 10, code := some k1c2 }
def k1c3 : Code := { maxStack := 6, maxLocals := 4, code := method_4_code, exceptionTable := #[], attributes := #[] }
def k1m3 : Method := { name := "lowest", desc := "(JI)J", sig := { parameters := [.long, .int], returnType := some .long }, accessFlags := 10, code := some k1c3 }
def k1c4 : Code := { maxStack := 4, maxLocals := 27, code := code, exceptionTable := #[], attributes := #[] }
def k1m4 : Method := { name := "law", desc := "(JIJIII)Z", sig := { parameters := [.long, .int, .long, .int, .int, .int], returnType := some .boolean }, accessFlags := 9, code := some k1c4 }
/-- com/example/topsail/topsail/cli/LatencyHistogramPercentilePinLaw -/
def k1 : Class := { plain "com/example/topsail/topsail/cli/LatencyHistogramPercentilePinLaw" (some 0) with
  accessFlags := 49
  interfaces := #[]
  cf := some (fileOf pool1 9 #[] #[{ accessFlags := 1, nameIndex := 5, descriptorIndex := 6, attributes := #[] }, { accessFlags := 10, nameIndex := 12, descriptorIndex := 13, attributes := #[] }, { accessFlags := 10, nameIndex := 22, descriptorIndex := 23, attributes := #[] }, { accessFlags := 10, nameIndex := 26, descriptorIndex := 23, attributes := #[] }, { accessFlags := 9, nameIndex := 50, descriptorIndex := 51, attributes := #[] }] 49 2 #[] #[])
  fields := #[]
  methods := #[k1m0, k1m1, k1m2, k1m3, k1m4]
  instanceTypes := #[]
  staticTypes := #[]
  resolved := Array.replicate 54 none
  statics := none }

def pool2 : Array CpInfo := pool [(1, .class_ 2), (0, u "java/lang/Math"), (1, .class_ 6), (1, u "java/lang/Object"), (0, u "<init>"), (0, u "()V"), (89, .class_ 100), (1, u "java/lang/Math$RandomNumberGeneratorHolder"), (20, u "(JJ)J"), (50, u "negativeZeroFloatBits"), (0, u "J"), (2, u "negativeZeroDoubleBits"), (21, u "max"), (2, u "min"), (43, u "$assertionsDisabled"), (0, u "Z"), (91, u "twoToTheDoubleScaleDown"), (0, u "D"), (4, u "twoToTheDoubleScaleUp"), (9, u "E"), (3, u "PI"), (2, u "TAU"), (2, u "DEGREES_TO_RADIANS"), (0, u "RADIANS_TO_DEGREES")] 94

def k2m0 : Method := { name := "<init>", desc := "()V", sig := { parameters := [], returnType := none }, accessFlags := 2, code := none }
def k2c1 : Code := { maxStack := 4, maxLocals := 4, code := jdk_29_method_66_code, exceptionTable := #[], attributes := #[] }
def k2m1 : Method := { name := "max", desc := "(JJ)J", sig := { parameters := [.long, .long], returnType := some .long }, accessFlags := 9, code := some k2c1 }
def k2c2 : Code := { maxStack := 4, maxLocals := 4, code := jdk_29_method_70_code, exceptionTable := #[], attributes := #[] }
def k2m2 : Method := { name := "min", desc := "(JJ)J", sig := { parameters := [.long, .long], returnType := some .long }, accessFlags := 9, code := some k2c2 }
/-- java/lang/Math -/
def k2 : Class := { plain "java/lang/Math" (some 0) with
  accessFlags := 49
  interfaces := #[]
  cf := some (fileOf pool2 1 #[.nestMembers #[98]] #[{ accessFlags := 2, nameIndex := 7, descriptorIndex := 8, attributes := #[] }, { accessFlags := 9, nameIndex := 198, descriptorIndex := 121, attributes := #[] }, { accessFlags := 9, nameIndex := 201, descriptorIndex := 121, attributes := #[] }] 49 4 #[] #[{ accessFlags := 25, nameIndex := 354, descriptorIndex := 339, attributes := #[] }, { accessFlags := 25, nameIndex := 358, descriptorIndex := 339, attributes := #[] }, { accessFlags := 25, nameIndex := 361, descriptorIndex := 339, attributes := #[] }, { accessFlags := 26, nameIndex := 364, descriptorIndex := 339, attributes := #[] }, { accessFlags := 26, nameIndex := 365, descriptorIndex := 339, attributes := #[] }, { accessFlags := 26, nameIndex := 172, descriptorIndex := 173, attributes := #[] }, { accessFlags := 26, nameIndex := 176, descriptorIndex := 173, attributes := #[] }, { accessFlags := 8, nameIndex := 344, descriptorIndex := 339, attributes := #[] }, { accessFlags := 8, nameIndex := 338, descriptorIndex := 339, attributes := #[] }, { accessFlags := 4120, nameIndex := 245, descriptorIndex := 246, attributes := #[] }])
  fields := #[{ name := "E", type := .double, accessFlags := 25, slot := 0, constantValue := 0 }, { name := "PI", type := .double, accessFlags := 25, slot := 1, constantValue := 0 }, { name := "TAU", type := .double, accessFlags := 25, slot := 2, constantValue := 0 }, { name := "DEGREES_TO_RADIANS", type := .double, accessFlags := 26, slot := 3, constantValue := 0 }, { name := "RADIANS_TO_DEGREES", type := .double, accessFlags := 26, slot := 4, constantValue := 0 }, { name := "negativeZeroFloatBits", type := .long, accessFlags := 26, slot := 5, constantValue := 0 }, { name := "negativeZeroDoubleBits", type := .long, accessFlags := 26, slot := 6, constantValue := 0 }, { name := "twoToTheDoubleScaleUp", type := .double, accessFlags := 8, slot := 7, constantValue := 0 }, { name := "twoToTheDoubleScaleDown", type := .double, accessFlags := 8, slot := 8, constantValue := 0 }, { name := "$assertionsDisabled", type := .boolean, accessFlags := 4120, slot := 9, constantValue := 0 }]
  methods := #[k2m0, k2m1, k2m2]
  instanceTypes := #[]
  staticTypes := #[.double, .double, .double, .double, .double, .long, .long, .double, .double, .boolean]
  resolved := Array.replicate 460 none
  statics := none }

def pool3 : Array CpInfo := pool [(1, .class_ 2), (0, u "com/example/topsail/topsail/cli/LatencyHistogram"), (0, .methodref 4 5), (0, .class_ 6), (0, .nameAndType 7 8), (0, u "java/lang/Object"), (0, u "<init>"), (0, u "()V"), (0, .class_ 10), (0, u "java/lang/Long"), (0, .long 9223372036854775807), (1, .methodref 1 14), (0, .nameAndType 15 16), (0, u "bucketOf"), (0, u "(J)I"), (0, .fieldref 1 18), (0, .nameAndType 19 20), (0, u "counts"), (0, u "[J"), (0, .fieldref 1 22), (0, .nameAndType 23 24), (0, u "count"), (0, u "J"), (7, .long 99), (1, .long 100), (1, .methodref 1 37), (0, .nameAndType 38 39), (0, u "lowestOf"), (0, u "(I)J"), (0, .long 2048), (1, .methodref 9 43), (0, .nameAndType 44 16), (0, u "numberOfLeadingZeros"), (0, u "SUB_BITS"), (0, u "I"), (2, u "SUB_BUCKETS"), (1, u "EXACT"), (3, u "record"), (0, u "(J)V"), (1, u "percentile")] 3

def k3c0 : Code := { maxStack := 3, maxLocals := 1, code := prog_16_method_1_code, exceptionTable := #[], attributes := #[] }
def k3m0 : Method := { name := "<init>", desc := "()V", sig := { parameters := [], returnType := none }, accessFlags := 0, code := some k3c0 }
def k3c1 : Code := { maxStack := 6, maxLocals := 3, code := prog_16_method_2_code, exceptionTable := #[], attributes := #[] }
def k3m1 : Method := { name := "record", desc := "(J)V", sig := { parameters := [.long], returnType := none }, accessFlags := 0, code := some k3c1 }
def k3c2 : Code := { maxStack := 4, maxLocals := 7, code := prog_16_method_4_code, exceptionTable := #[], attributes := #[] }
def k3m2 : Method := { name := "percentile", desc := "(I)J", sig := { parameters := [.int], returnType := some .long }, accessFlags := 0, code := some k3c2 }
def k3c3 : Code := { maxStack := 5, maxLocals := 4, code := prog_16_method_5_code, exceptionTable := #[], attributes := #[] }
def k3m3 : Method := { name := "bucketOf", desc := "(J)I", sig := { parameters := [.long], returnType := some .int }, accessFlags := 10, code := some k3c3 }
def k3c4 : Code := { maxStack := 4, maxLocals := 4, code := prog_16_method_6_code, exceptionTable := #[], attributes := #[] }
def k3m4 : Method := { name := "lowestOf", desc := "(I)J", sig := { parameters := [.int], returnType := some .long }, accessFlags := 10, code := some k3c4 }
/-- com/example/topsail/topsail/cli/LatencyHistogram -/
def k3 : Class := { plain "com/example/topsail/topsail/cli/LatencyHistogram" (some 0) with
  accessFlags := 48
  interfaces := #[]
  cf := some (fileOf pool3 1 #[] #[{ accessFlags := 0, nameIndex := 7, descriptorIndex := 8, attributes := #[] }, { accessFlags := 0, nameIndex := 55, descriptorIndex := 56, attributes := #[] }, { accessFlags := 0, nameIndex := 58, descriptorIndex := 39, attributes := #[] }, { accessFlags := 10, nameIndex := 15, descriptorIndex := 16, attributes := #[] }, { accessFlags := 10, nameIndex := 38, descriptorIndex := 39, attributes := #[] }] 48 4 #[] #[{ accessFlags := 26, nameIndex := 45, descriptorIndex := 46, attributes := #[] }, { accessFlags := 26, nameIndex := 49, descriptorIndex := 46, attributes := #[] }, { accessFlags := 26, nameIndex := 51, descriptorIndex := 46, attributes := #[] }, { accessFlags := 18, nameIndex := 19, descriptorIndex := 20, attributes := #[] }, { accessFlags := 2, nameIndex := 23, descriptorIndex := 24, attributes := #[] }])
  fields := #[{ name := "SUB_BITS", type := .int, accessFlags := 26, slot := 0, constantValue := 0 }, { name := "SUB_BUCKETS", type := .int, accessFlags := 26, slot := 1, constantValue := 0 }, { name := "EXACT", type := .int, accessFlags := 26, slot := 2, constantValue := 0 }, { name := "counts", type := (.array .long), accessFlags := 18, slot := 0, constantValue := 0 }, { name := "count", type := .long, accessFlags := 2, slot := 1, constantValue := 0 }]
  methods := #[k3m0, k3m1, k3m2, k3m3, k3m4]
  instanceTypes := #[(.array .long), .long]
  staticTypes := #[.int, .int, .int]
  resolved := Array.replicate 62 none
  statics := none }

def pool4 : Array CpInfo := pool [(1, .class_ 2), (0, u "java/io/Serializable"), (0, .class_ 4), (0, u "java/lang/Object")] 2

/-- java/io/Serializable -/
def k4 : Class := { plain "java/io/Serializable" (some 0) with
  accessFlags := 1537
  interfaces := #[]
  cf := some (fileOf pool4 1 #[] #[] 1537 3 #[] #[])
  fields := #[]
  methods := #[]
  instanceTypes := #[]
  staticTypes := #[]
  resolved := Array.replicate 7 none
  statics := none }

def pool5 : Array CpInfo := pool [(2, .class_ 4), (1, u "java/lang/Object"), (0, u "<init>"), (0, u "()V"), (1, .class_ 10), (1, u "java/lang/Number"), (2, .class_ 14), (0, u "java/io/Serializable"), (0, u "serialVersionUID"), (0, u "J")] 20

def k5m0 : Method := { name := "<init>", desc := "()V", sig := { parameters := [], returnType := none }, accessFlags := 1, code := none }
/-- java/lang/Number -/
def k5 : Class := { plain "java/lang/Number" (some 0) with
  accessFlags := 1057
  interfaces := #[4]
  cf := some (fileOf pool5 8 #[] #[{ accessFlags := 1, nameIndex := 5, descriptorIndex := 6, attributes := #[] }] 1057 2 #[13] #[{ accessFlags := 26, nameIndex := 15, descriptorIndex := 16, attributes := #[] }])
  fields := #[{ name := "serialVersionUID", type := .long, accessFlags := 26, slot := 0, constantValue := 0 }]
  methods := #[k5m0]
  instanceTypes := #[]
  staticTypes := #[.long]
  resolved := Array.replicate 37 none
  statics := none }

def pool6 : Array CpInfo := pool [(1, .class_ 2), (0, u "java/lang/Comparable"), (0, .class_ 4), (0, u "java/lang/Object")] 7

/-- java/lang/Comparable -/
def k6 : Class := { plain "java/lang/Comparable" (some 0) with
  accessFlags := 1537
  interfaces := #[]
  cf := some (fileOf pool6 1 #[] #[] 1537 3 #[] #[])
  fields := #[]
  methods := #[]
  instanceTypes := #[]
  staticTypes := #[]
  resolved := Array.replicate 12 none
  statics := none }

def pool7 : Array CpInfo := pool [(1, .class_ 2), (0, u "java/lang/constant/Constable"), (0, .class_ 4), (0, u "java/lang/Object")] 6

/-- java/lang/constant/Constable -/
def k7 : Class := { plain "java/lang/constant/Constable" (some 0) with
  accessFlags := 1537
  interfaces := #[]
  cf := some (fileOf pool7 1 #[] #[] 1537 3 #[] #[])
  fields := #[]
  methods := #[]
  instanceTypes := #[]
  staticTypes := #[]
  resolved := Array.replicate 11 none
  statics := none }

def pool8 : Array CpInfo := pool [(1, .class_ 2), (0, u "java/lang/constant/ConstantDesc"), (0, .class_ 4), (0, u "java/lang/Object")] 32

/-- java/lang/constant/ConstantDesc -/
def k8 : Class := { plain "java/lang/constant/ConstantDesc" (some 0) with
  accessFlags := 1537
  interfaces := #[]
  cf := some (fileOf pool8 1 #[] #[] 1537 3 #[] #[])
  fields := #[]
  methods := #[]
  instanceTypes := #[]
  staticTypes := #[]
  resolved := Array.replicate 37 none
  statics := none }

def pool9 : Array CpInfo := pool [(1, .class_ 2), (0, u "java/lang/Long"), (15, .class_ 20), (1, u "java/lang/Integer"), (79, u "numberOfLeadingZeros"), (0, u "(J)I"), (133, .class_ 237), (1, u "java/lang/Long$LongCache"), (33, .class_ 272), (0, u "java/lang/Number"), (2, u "value"), (0, u "J"), (31, .methodref 18 309), (0, .nameAndType 100 310), (0, u "(I)I"), (50, u "TYPE"), (0, u "Ljava/lang/Class;"), (0, .class_ 364), (0, u "java/lang/Comparable"), (0, .class_ 366), (0, u "java/lang/constant/Constable"), (0, .class_ 368), (0, u "java/lang/constant/ConstantDesc"), (0, u "MIN_VALUE"), (1, u "MAX_VALUE"), (4, u "SIZE"), (0, u "I"), (1, u "BYTES"), (1, u "serialVersionUID")] 142

def k9c0 : Code := { maxStack := 3, maxLocals := 3, code := jdk_35_method_48_code, exceptionTable := #[], attributes := #[] }
def k9m0 : Method := { name := "numberOfLeadingZeros", desc := "(J)I", sig := { parameters := [.long], returnType := some .int }, accessFlags := 9, code := some k9c0 }
/-- java/lang/Long -/
def k9 : Class := { plain "java/lang/Long" (some 5) with
  accessFlags := 49
  interfaces := #[6, 7, 8]
  cf := some (fileOf pool9 1 #[.nestMembers #[235]] #[{ accessFlags := 9, nameIndex := 100, descriptorIndex := 101, attributes := #[] }] 49 271 #[363, 365, 367] #[{ accessFlags := 25, nameIndex := 369, descriptorIndex := 276, attributes := #[] }, { accessFlags := 25, nameIndex := 371, descriptorIndex := 276, attributes := #[] }, { accessFlags := 25, nameIndex := 361, descriptorIndex := 362, attributes := #[] }, { accessFlags := 18, nameIndex := 275, descriptorIndex := 276, attributes := #[] }, { accessFlags := 25, nameIndex := 376, descriptorIndex := 377, attributes := #[] }, { accessFlags := 25, nameIndex := 379, descriptorIndex := 377, attributes := #[] }, { accessFlags := 26, nameIndex := 381, descriptorIndex := 276, attributes := #[] }])
  fields := #[{ name := "MIN_VALUE", type := .long, accessFlags := 25, slot := 0, constantValue := 0 }, { name := "MAX_VALUE", type := .long, accessFlags := 25, slot := 1, constantValue := 0 }, { name := "TYPE", type := (.object "java/lang/Class"), accessFlags := 25, slot := 2, constantValue := 0 }, { name := "value", type := .long, accessFlags := 18, slot := 0, constantValue := 0 }, { name := "SIZE", type := .int, accessFlags := 25, slot := 3, constantValue := 0 }, { name := "BYTES", type := .int, accessFlags := 25, slot := 4, constantValue := 0 }, { name := "serialVersionUID", type := .long, accessFlags := 26, slot := 5, constantValue := 0 }]
  methods := #[k9m0]
  instanceTypes := #[.long]
  staticTypes := #[.long, .long, (.object "java/lang/Class"), .int, .int, .long]
  resolved := Array.replicate 524 none
  statics := none }

def pool10 : Array CpInfo := pool [(1, .class_ 2), (0, u "java/lang/Integer"), (16, u "digits"), (0, u "[C"), (32, u "numberOfLeadingZeros"), (0, u "(I)I"), (30, u "DigitOnes"), (0, u "[B"), (2, u "DigitTens"), (99, .class_ 190), (0, u "java/lang/Integer$IntegerCache"), (3, u "I"), (8, .class_ 204), (0, u "java/lang/Number"), (2, u "value"), (56, .integer 65536), (37, u "TYPE"), (0, u "Ljava/lang/Class;"), (0, .class_ 305), (0, u "java/lang/Comparable"), (0, .class_ 307), (0, u "java/lang/constant/Constable"), (0, .class_ 309), (0, u "java/lang/constant/ConstantDesc"), (0, u "MIN_VALUE"), (1, u "MAX_VALUE"), (3, u "SIZE"), (1, u "BYTES"), (1, u "serialVersionUID"), (0, u "J")] 131

def k10c0 : Code := { maxStack := 3, maxLocals := 2, code := jdk_33_method_47_code, exceptionTable := #[], attributes := #[] }
def k10m0 : Method := { name := "numberOfLeadingZeros", desc := "(I)I", sig := { parameters := [.int], returnType := some .int }, accessFlags := 9, code := some k10c0 }
/-- java/lang/Integer -/
def k10 : Class := { plain "java/lang/Integer" (some 5) with
  accessFlags := 49
  interfaces := #[6, 7, 8]
  cf := some (fileOf pool10 1 #[.nestMembers #[189]] #[{ accessFlags := 9, nameIndex := 53, descriptorIndex := 54, attributes := #[] }] 49 203 #[304, 306, 308] #[{ accessFlags := 25, nameIndex := 310, descriptorIndex := 194, attributes := #[] }, { accessFlags := 25, nameIndex := 312, descriptorIndex := 194, attributes := #[] }, { accessFlags := 25, nameIndex := 302, descriptorIndex := 303, attributes := #[] }, { accessFlags := 24, nameIndex := 19, descriptorIndex := 20, attributes := #[] }, { accessFlags := 24, nameIndex := 89, descriptorIndex := 86, attributes := #[] }, { accessFlags := 24, nameIndex := 85, descriptorIndex := 86, attributes := #[] }, { accessFlags := 18, nameIndex := 207, descriptorIndex := 194, attributes := #[] }, { accessFlags := 25, nameIndex := 316, descriptorIndex := 194, attributes := #[] }, { accessFlags := 25, nameIndex := 318, descriptorIndex := 194, attributes := #[] }, { accessFlags := 26, nameIndex := 320, descriptorIndex := 321, attributes := #[] }])
  fields := #[{ name := "MIN_VALUE", type := .int, accessFlags := 25, slot := 0, constantValue := 0 }, { name := "MAX_VALUE", type := .int, accessFlags := 25, slot := 1, constantValue := 0 }, { name := "TYPE", type := (.object "java/lang/Class"), accessFlags := 25, slot := 2, constantValue := 0 }, { name := "digits", type := (.array .char), accessFlags := 24, slot := 3, constantValue := 0 }, { name := "DigitTens", type := (.array .byte), accessFlags := 24, slot := 4, constantValue := 0 }, { name := "DigitOnes", type := (.array .byte), accessFlags := 24, slot := 5, constantValue := 0 }, { name := "value", type := .int, accessFlags := 18, slot := 0, constantValue := 0 }, { name := "SIZE", type := .int, accessFlags := 25, slot := 6, constantValue := 0 }, { name := "BYTES", type := .int, accessFlags := 25, slot := 7, constantValue := 0 }, { name := "serialVersionUID", type := .long, accessFlags := 26, slot := 8, constantValue := 0 }]
  methods := #[k10m0]
  instanceTypes := #[.int]
  staticTypes := #[.int, .int, (.object "java/lang/Class"), (.array .char), (.array .byte), (.array .byte), .int, .int, .long]
  resolved := Array.replicate 453 none
  statics := none }

def pool11 : Array CpInfo := pool [(1, u "java/lang/Cloneable"), (0, .class_ 1), (0, u "java/lang/Object"), (0, .class_ 3)] 3

/-- java/lang/Cloneable -/
def k11 : Class := { plain "java/lang/Cloneable" (some 0) with
  accessFlags := 1537
  interfaces := #[]
  cf := some (fileOf pool11 2 #[] #[] 1537 4 #[] #[])
  fields := #[]
  methods := #[]
  instanceTypes := #[]
  staticTypes := #[]
  resolved := Array.replicate 8 none
  statics := none }

/-- the primitive byte -/
def k12 : Class := { plain "byte" none with kind := .primitive 'B', accessFlags := 0x411 }
/-- [B -/
def k13 : Class := { plain "[B" (some 0) with kind := .array 12 .byte, interfaces := #[11, 4], accessFlags := 1041 }

/-- the primitive int -/
def k14 : Class := { plain "int" none with kind := .primitive 'I', accessFlags := 0x411 }
/-- [I -/
def k15 : Class := { plain "[I" (some 0) with kind := .array 14 .int, interfaces := #[11, 4], accessFlags := 1041 }

/-- the primitive long -/
def k16 : Class := { plain "long" none with kind := .primitive 'J', accessFlags := 0x411 }
/-- [J -/
def k17 : Class := { plain "[J" (some 0) with kind := .array 16 .long, interfaces := #[11, 4], accessFlags := 1041 }

def heap : Heap := #[]
def classes : Array Class := #[k0, k1, k2, k3, k4, k5, k6, k7, k8, k9, k10, k11, k12, k13, k14, k15, k16, k17]
def interned : List (Array UInt16 × Addr) := []
def slotsUsed : Nat := 0
def theMethod : MethodId := ⟨1, 4⟩
def args0 : Array Value := #[.long 5, .int 5, .long 5, .int 5, .int 5, .int 5]
def aboutOver (below : List Frame) : State where
  vm := { classes := classes, interned := interned.toArray }
  heap := heap
  slotsUsed := slotsUsed
  threads := #[{ frames := .invoking theMethod args0 :: below }]
def below0 : List Frame := [.native { method := ⟨0, 0⟩, args := #[] }]
def about1 : State := aboutOver below0
def p0 : Program := .bare "" "" ""
def e0 : Env := launch0.env 0 0 0
theorem w_frames : about1.frames = Frame.invoking theMethod args0 :: below0 := rfl
set_option maxRecDepth 65536 in
theorem w_args : argsFit about1.vm theMethod args0 = true := by decide +kernel
set_option maxRecDepth 65536 in
theorem w_heap : heapFits about1 = true := by decide +kernel
set_option maxRecDepth 65536 in
theorem w_runnable : about1.curStatus? = some .runnable := by decide +kernel
set_option maxRecDepth 65536 in
theorem w_alone : about1.alone = true := by decide +kernel
set_option maxRecDepth 65536 in
theorem w_named : about1.methodNamed? x = some theMethod := by decide +kernel
set_option maxRecDepth 65536 in
theorem w_hears : about1.hears theMethod below0 = true := by decide +kernel
set_option maxRecDepth 65536 in
theorem w_ripe : about1.ripe theMethod args0 below0 = true := by decide +kernel
theorem w_running : about1.status = .running := rfl
set_option maxRecDepth 65536 in
theorem w_room : about1.hasRoom e0.platform room_1 = true :=
  launch0.hasRoom_least _ room_1 (by decide +kernel) (by decide +kernel) (by decide +kernel) (by decide +kernel) (by decide +kernel) (by decide +kernel)
theorem allAtoms_all (ts : List Jvm.Cond) (a : Array Jvm.Value) (st : Jvm.State) : (allAtoms ts).before a st = ts.all (fun c => c.before a st) := by
  induction ts with
  | nil => rfl
  | cons c t ih =>
    show (Jvm.Cond.and c (allAtoms t)).before a st = _
    rw [Jvm.Cond.before_and, ih, List.all_cons]
def words1 : List Jvm.Cond := Jvm.Cond.code x code maxLocals ret :: tables_1
/-- a 'code' word, met by the world's own term for the bytes: nothing is compared byte by byte -/
theorem code_word {y : MethodName} {bytes : ByteArray} {mx : Nat} {rt : Option FieldType} {a : Array Value} {s : State} {m : MethodId} {meth : Method} {c : Code} (h1 : s.methodNamed? y = some m) (h2 : s.vm.method? m = some meth) (h3 : meth.code = some c) (h4 : c.code = bytes)
    (h5 : (c.maxLocals == mx && c.exceptionTable.isEmpty && decide (c.maxStack ≤ mostOperands) && decide (meth.sig.returnType = rt) && !meth.locks && decide (parseMethodDescriptor y.desc = some meth.sig)) = true) : (Jvm.Cond.code y bytes mx rt).before a s = true := by
  simp only [Bool.and_eq_true, beq_iff_eq, Bool.not_eq_true', decide_eq_true_eq] at h5
  obtain ⟨⟨⟨⟨⟨g1, g2⟩, g3⟩, g4⟩, g5⟩, g6⟩ := h5
  simp [Cond.before, Cond.holds, Cond.value, h1, h2, h3, h4, g1, g2, g3, g4, g5, g6]
def isCode : Jvm.Cond → Bool
  | .code _ _ _ _ => true
  | _ => false
theorem all_split {L : List Jvm.Cond} {P : Jvm.Cond → Bool} (h1 : L.all (fun c => isCode c || P c) = true) (h2 : ∀ c ∈ L.filter isCode, P c = true) : L.all P = true := by
  refine List.all_eq_true.mpr fun c hc => ?_
  have h := List.all_eq_true.mp h1 c hc
  rcases Bool.eq_false_or_eq_true (isCode c) with hi | hi
  · exact h2 c (List.mem_filter.mpr ⟨hc, hi⟩)
  · simpa [hi] using h
set_option maxRecDepth 65536 in
theorem w_c0 : (Jvm.Cond.code x code maxLocals ret).before args0 about1 = true := code_word (m := ⟨1, 4⟩) (meth := k1m4) (c := k1c4) (by decide +kernel) rfl rfl rfl (by decide +kernel)
set_option maxRecDepth 65536 in
theorem w_c1 : (Jvm.Cond.code ({ cls := "com/example/topsail/topsail/cli/LatencyHistogramPercentilePinLaw", name := "value", desc := "(JI)J" } : Jvm.MethodName) method_3_code (8 : Nat) (Option.some Jvm.ClassFile.FieldType.long)).before args0 about1 = true := code_word (m := ⟨1, 2⟩) (meth := k1m2) (c := k1c2) (by decide +kernel) rfl rfl rfl (by decide +kernel)
set_option maxRecDepth 65536 in
theorem w_c2 : (Jvm.Cond.code ({ cls := "com/example/topsail/topsail/cli/LatencyHistogramPercentilePinLaw", name := "shift", desc := "(I)I" } : Jvm.MethodName) method_2_code (1 : Nat) (Option.some Jvm.ClassFile.FieldType.int)).before args0 about1 = true := code_word (m := ⟨1, 1⟩) (meth := k1m1) (c := k1c1) (by decide +kernel) rfl rfl rfl (by decide +kernel)
set_option maxRecDepth 65536 in
theorem w_c3 : (Jvm.Cond.code ({ cls := "com/example/topsail/topsail/cli/LatencyHistogramPercentilePinLaw", name := "lowest", desc := "(JI)J" } : Jvm.MethodName) method_4_code (4 : Nat) (Option.some Jvm.ClassFile.FieldType.long)).before args0 about1 = true := code_word (m := ⟨1, 3⟩) (meth := k1m3) (c := k1c3) (by decide +kernel) rfl rfl rfl (by decide +kernel)
set_option maxRecDepth 65536 in
theorem w_c4 : (Jvm.Cond.code ({ cls := "java/lang/Math", name := "min", desc := "(JJ)J" } : Jvm.MethodName) jdk_29_method_70_code (4 : Nat) (Option.some Jvm.ClassFile.FieldType.long)).before args0 about1 = true := code_word (m := ⟨2, 2⟩) (meth := k2m2) (c := k2c2) (by decide +kernel) rfl rfl rfl (by decide +kernel)
set_option maxRecDepth 65536 in
theorem w_c5 : (Jvm.Cond.code ({ cls := "java/lang/Math", name := "max", desc := "(JJ)J" } : Jvm.MethodName) jdk_29_method_66_code (4 : Nat) (Option.some Jvm.ClassFile.FieldType.long)).before args0 about1 = true := code_word (m := ⟨2, 1⟩) (meth := k2m1) (c := k2c1) (by decide +kernel) rfl rfl rfl (by decide +kernel)
set_option maxRecDepth 65536 in
theorem w_c6 : (Jvm.Cond.code ({ cls := "com/example/topsail/topsail/cli/LatencyHistogram", name := "<init>", desc := "()V" } : Jvm.MethodName) prog_16_method_1_code (1 : Nat) (Option.none : Option Jvm.ClassFile.FieldType)).before args0 about1 = true := code_word (m := ⟨3, 0⟩) (meth := k3m0) (c := k3c0) (by decide +kernel) rfl rfl rfl (by decide +kernel)
set_option maxRecDepth 65536 in
theorem w_c7 : (Jvm.Cond.code ({ cls := "java/lang/Object", name := "<init>", desc := "()V" } : Jvm.MethodName) object_method_1_code (1 : Nat) (Option.none : Option Jvm.ClassFile.FieldType)).before args0 about1 = true := code_word (m := ⟨0, 0⟩) (meth := k0m0) (c := k0c0) (by decide +kernel) rfl rfl rfl (by decide +kernel)
set_option maxRecDepth 65536 in
theorem w_c8 : (Jvm.Cond.code ({ cls := "com/example/topsail/topsail/cli/LatencyHistogram", name := "bucketOf", desc := "(J)I" } : Jvm.MethodName) prog_16_method_5_code (4 : Nat) (Option.some Jvm.ClassFile.FieldType.int)).before args0 about1 = true := code_word (m := ⟨3, 3⟩) (meth := k3m3) (c := k3c3) (by decide +kernel) rfl rfl rfl (by decide +kernel)
set_option maxRecDepth 65536 in
theorem w_c9 : (Jvm.Cond.code ({ cls := "java/lang/Long", name := "numberOfLeadingZeros", desc := "(J)I" } : Jvm.MethodName) jdk_35_method_48_code (3 : Nat) (Option.some Jvm.ClassFile.FieldType.int)).before args0 about1 = true := code_word (m := ⟨9, 0⟩) (meth := k9m0) (c := k9c0) (by decide +kernel) rfl rfl rfl (by decide +kernel)
set_option maxRecDepth 65536 in
theorem w_c10 : (Jvm.Cond.code ({ cls := "java/lang/Integer", name := "numberOfLeadingZeros", desc := "(I)I" } : Jvm.MethodName) jdk_33_method_47_code (2 : Nat) (Option.some Jvm.ClassFile.FieldType.int)).before args0 about1 = true := code_word (m := ⟨10, 0⟩) (meth := k10m0) (c := k10c0) (by decide +kernel) rfl rfl rfl (by decide +kernel)
set_option maxRecDepth 65536 in
theorem w_c11 : (Jvm.Cond.code ({ cls := "com/example/topsail/topsail/cli/LatencyHistogram", name := "record", desc := "(J)V" } : Jvm.MethodName) prog_16_method_2_code (3 : Nat) (Option.none : Option Jvm.ClassFile.FieldType)).before args0 about1 = true := code_word (m := ⟨3, 1⟩) (meth := k3m1) (c := k3c1) (by decide +kernel) rfl rfl rfl (by decide +kernel)
set_option maxRecDepth 65536 in
theorem w_c12 : (Jvm.Cond.code ({ cls := "com/example/topsail/topsail/cli/LatencyHistogram", name := "percentile", desc := "(I)J" } : Jvm.MethodName) prog_16_method_4_code (7 : Nat) (Option.some Jvm.ClassFile.FieldType.long)).before args0 about1 = true := code_word (m := ⟨3, 2⟩) (meth := k3m2) (c := k3c2) (by decide +kernel) rfl rfl rfl (by decide +kernel)
set_option maxRecDepth 65536 in
theorem w_c13 : (Jvm.Cond.code ({ cls := "com/example/topsail/topsail/cli/LatencyHistogram", name := "lowestOf", desc := "(I)J" } : Jvm.MethodName) prog_16_method_6_code (4 : Nat) (Option.some Jvm.ClassFile.FieldType.long)).before args0 about1 = true := code_word (m := ⟨3, 4⟩) (meth := k3m4) (c := k3c4) (by decide +kernel) rfl rfl rfl (by decide +kernel)
def codes1 : List Jvm.Cond := [Jvm.Cond.code x code maxLocals ret, Jvm.Cond.code ({ cls := "com/example/topsail/topsail/cli/LatencyHistogramPercentilePinLaw", name := "value", desc := "(JI)J" } : Jvm.MethodName) method_3_code (8 : Nat) (Option.some Jvm.ClassFile.FieldType.long), Jvm.Cond.code ({ cls := "com/example/topsail/topsail/cli/LatencyHistogramPercentilePinLaw", name := "shift", desc := "(I)I" } : Jvm.MethodName) method_2_code (1 : Nat) (Option.some Jvm.ClassFile.FieldType.int), Jvm.Cond.code ({ cls := "com/example/topsail/topsail/cli/LatencyHistogramPercentilePinLaw", name := "lowest", desc := "(JI)J" } : Jvm.MethodName) method_4_code (4 : Nat) (Option.some Jvm.ClassFile.FieldType.long), Jvm.Cond.code ({ cls := "java/lang/Math", name := "min", desc := "(JJ)J" } : Jvm.MethodName) jdk_29_method_70_code (4 : Nat) (Option.some Jvm.ClassFile.FieldType.long), Jvm.Cond.code ({ cls := "java/lang/Math", name := "max", desc := "(JJ)J" } : Jvm.MethodName) jdk_29_method_66_code (4 : Nat) (Option.some Jvm.ClassFile.FieldType.long), Jvm.Cond.code ({ cls := "com/example/topsail/topsail/cli/LatencyHistogram", name := "<init>", desc := "()V" } : Jvm.MethodName) prog_16_method_1_code (1 : Nat) (Option.none : Option Jvm.ClassFile.FieldType), Jvm.Cond.code ({ cls := "java/lang/Object", name := "<init>", desc := "()V" } : Jvm.MethodName) object_method_1_code (1 : Nat) (Option.none : Option Jvm.ClassFile.FieldType), Jvm.Cond.code ({ cls := "com/example/topsail/topsail/cli/LatencyHistogram", name := "bucketOf", desc := "(J)I" } : Jvm.MethodName) prog_16_method_5_code (4 : Nat) (Option.some Jvm.ClassFile.FieldType.int), Jvm.Cond.code ({ cls := "java/lang/Long", name := "numberOfLeadingZeros", desc := "(J)I" } : Jvm.MethodName) jdk_35_method_48_code (3 : Nat) (Option.some Jvm.ClassFile.FieldType.int), Jvm.Cond.code ({ cls := "java/lang/Integer", name := "numberOfLeadingZeros", desc := "(I)I" } : Jvm.MethodName) jdk_33_method_47_code (2 : Nat) (Option.some Jvm.ClassFile.FieldType.int), Jvm.Cond.code ({ cls := "com/example/topsail/topsail/cli/LatencyHistogram", name := "record", desc := "(J)V" } : Jvm.MethodName) prog_16_method_2_code (3 : Nat) (Option.none : Option Jvm.ClassFile.FieldType), Jvm.Cond.code ({ cls := "com/example/topsail/topsail/cli/LatencyHistogram", name := "percentile", desc := "(I)J" } : Jvm.MethodName) prog_16_method_4_code (7 : Nat) (Option.some Jvm.ClassFile.FieldType.long), Jvm.Cond.code ({ cls := "com/example/topsail/topsail/cli/LatencyHistogram", name := "lowestOf", desc := "(I)J" } : Jvm.MethodName) prog_16_method_6_code (4 : Nat) (Option.some Jvm.ClassFile.FieldType.long)]
set_option maxRecDepth 65536 in
theorem codes_eq : words1.filter isCode = codes1 := rfl
theorem w_codes : ∀ c ∈ words1.filter isCode, c.before args0 about1 = true := by
  rw [codes_eq]
  intro c hc
  simp only [codes1, List.mem_cons, List.not_mem_nil, or_false] at hc
  rcases hc with rfl | rfl | rfl | rfl | rfl | rfl | rfl | rfl | rfl | rfl | rfl | rfl | rfl | rfl
  · exact w_c0
  · exact w_c1
  · exact w_c2
  · exact w_c3
  · exact w_c4
  · exact w_c5
  · exact w_c6
  · exact w_c7
  · exact w_c8
  · exact w_c9
  · exact w_c10
  · exact w_c11
  · exact w_c12
  · exact w_c13
set_option maxRecDepth 65536 in
theorem w_t1 : (words1.take 24).all (fun c => isCode c || c.before args0 about1) = true := by decide +kernel
set_option maxRecDepth 65536 in
theorem w_t2 : ((words1.drop 24).take 24).all (fun c => isCode c || c.before args0 about1) = true := by decide +kernel
set_option maxRecDepth 65536 in
theorem w_t3 : ((words1.drop 24).drop 24).all (fun c => isCode c || c.before args0 about1) = true := by decide +kernel
theorem w_tables : (allAtoms (Jvm.Cond.code x code maxLocals ret :: tables_1)).before args0 about1 = true := by
  rw [allAtoms_all]
  show words1.all (fun c => c.before args0 about1) = true
  refine all_split ?_ w_codes
  rw [← List.take_append_drop 24 words1, List.all_append, w_t1, ← List.take_append_drop 24 (words1.drop 24), List.all_append, w_t2, w_t3]
  rfl
set_option maxRecDepth 65536 in
theorem w_case : (Jvm.Cond.and given_1 narrow_1).before args0 about1 = true := by decide +kernel
theorem w_applies : (headSpec (Jvm.Cond.code x code maxLocals ret :: tables_1) room_1).applies x e0.platform about1 = true :=
  (Spec.applies_iff w_frames).mpr ⟨w_running, w_runnable, w_alone, w_named, w_hears, w_ripe, w_room, w_tables⟩
theorem atStart : AtStart classFile x code maxLocals ret World_1 tables_1 room_1 Calls_1 rest_1 Pre_1 launch0 p0 e0 about1 theMethod args0 below0 :=
  ⟨lists_1, trivial, launch0.admits_env _ _ _, launch0.least_env, fairChoices_fair.cas, fairChoices_fair.clock, w_frames, w_args, w_heap, w_applies, trivial, trivial, w_case⟩
end start1
theorem witness_1 : WitnessClaimed_1 := ⟨start1.p0, start1.e0, start1.about1, start1.theMethod, start1.args0, start1.below0, start1.atStart⟩
end Jvm.Pilot.@@N@@
