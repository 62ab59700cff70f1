import JvmDerived
import JvmDerived.Pilot.@@N@@Statement
import JvmDerived.Pilot.@@N@@Code
set_option linter.unusedVariables false
set_option linter.unusedSimpArgs false
namespace Jvm.RoadKit
open Sem ClassFile Op Lib Jvm.Stand Jvm.Free Jvm.LawKit
section New
variable {p : Program} {l : Launch} {e : Env} {R : Room} {s : State} {m : MethodId} {args : Array Value} {below : List Frame} {meth : Method} {c : Code} {T : State} {locs : List Loc} {cells slots : Nat}
theorem retI (X : Stand p l e R s m args below meth c T locs cells slots) (hx : p.tables.exec = Jvm.exec) {pc : Nat} {Ls : Array Slot} {z : Int32} {rest : List Value} (hret : meth.sig.returnType = some .int) (hd : decode c.code pc = .ok (.ireturn, 1)) {fs : List Frame}
    (hl : ∀ (f : JFrame) (acts : List Action), f.method = m → f.locked = none → f.entered = [] → (doReturn e (T.setTop f) acts (some (.int z))).1 = T.setFrames fs) : Steps p.tables e below (T.setTop (mkF m pc Ls (.int z :: rest))) (T.setFrames fs) := by
  have hm' : T.vm.method? m = some meth := X.method'
  have hn : narrow .int (.int z) = .int z := rfl
  show Steps p.tables e below (T.setTop { method := m, pc := pc, locals := Ls, stack := _ :: rest, locked := none }) _
  jvm_step X.here [X.here.top, hx, hd, hm', hret, hn]
  first | (intro acts; rw [hl _ acts rfl rfl rfl]) | rw [hl _ _ rfl rfl rfl]
  exact Steps.refl _
end New
end Jvm.RoadKit
namespace Jvm.Pilot.@@N@@
open Jvm Jvm.ClassFile Sem Op Lib Jvm.Free Jvm.Stand Jvm.LawKit Jvm.RoadKit Bundle Jvm.Pilot.@@N@@.Jvm.D
/-! OWN KIT: a walk as one forward chain. OwF: from frame f at T the run ends, and D says how. OwC: the setting of a body. OwCon: a body's contract. -/
section OwnKit
variable {p : Program} {l : Launch} {e : Env} {R : Room} {s : State} {m : MethodId} {args : Array Value} {below : List Frame} {meth : Method} {c : Code} {T : State} {locs : List Loc} {cells slots : Nat} {Z : State} {a0 : Array Value} {h : Heap}
variable {own nm : String} {bytes : ByteArray} {maxL : Nat} {ret : Option FieldType} {D : State → Outcome → Prop} {pc pc' : Nat} {Ls : Array Slot} {r : List Value}
def OwF (p : Program) (e : Env) (below : List Frame) (D : State → Outcome → Prop) (T : State) (f : JFrame) : Prop := ∃ t o, Steps p.tables e below (T.setTop f) t ∧ D t o
def OwC (p : Program) (Z s : State) (m : MethodId) (meth : Method) (c : Code) (own nm : String) (bytes : ByteArray) (maxL : Nat) (ret : Option FieldType) : Prop :=
  p.tables.exec = Jvm.exec ∧ c.code = bytes ∧ c.maxLocals = maxL ∧ s.vm.findClass own = some m.cls ∧ meth.name = nm ∧ meth.sig.returnType = ret ∧ meth.locks = false ∧ Z.Warmed39 s.vm
def OwD (s : State) (below : List Frame) (Q : Option Value → Heap → List Loc → Prop) (kc ks : Nat) (t : State) (o : Outcome) : Prop :=
  t.status = .running ∧ Ended t below o ∧ ∃ v L, o = .returned v ∧ Q v t.heap L ∧ FrameEnd s o t L kc ks
def OwCon (l : Launch) (y : MethodName) (bytes : ByteArray) (maxL : Nat) (ret : Option FieldType) (rm : Room) (Z : State) (as' : Array Value) (h : Heap) (Q : Option Value → Heap → List Loc → Prop) : Prop :=
  ∀ ws, MetFree l y (head1 (Jvm.Cond.code y bytes maxL ret :: ws) rm) (fun a U => a = as' ∧ Z.Warmed39 U.vm ∧ U.heap = h) (fun _ _ _ _ _ => True) (fun _ U o U' => ∃ v L, o = .returned v ∧ Q v U'.heap L ∧ FrameEnd U o U' L rm.cells rm.slots)
theorem OwF.st {T' : State} {f f' : JFrame} (h : ∀ t, Steps p.tables e below (T'.setTop f') t → Steps p.tables e below (T.setTop f) t) (k : OwF p e below D T' f') : OwF p e below D T f := by
  obtain ⟨t, o, q, d⟩ := k; exact ⟨t, o, h t q, d⟩
theorem OwCon.of {y : MethodName} {rm : Room} {as' : Array Value} {Q : Option Value → Heap → List Loc → Prop} (hpl : plainFor y = true) {Ls : Array Slot} (hent : ∀ m, entryFrame m as' maxL = mkF m 0 Ls [])
    (body : ∀ (p : Program) (e : Env) (s : State) (m : MethodId) (below : List Frame) (meth : Method) (c : Code) (s₁ : State), OwC p Z s m meth c y.cls y.name bytes maxL ret → Stand p l e rm s m as' below meth c s₁ [] 0 0 → s₁.heap = h → OwF p e below (OwD s below Q rm.cells rm.slots) s₁ (mkF m 0 Ls [])) :
    OwCon l y bytes maxL ret rm Z as' h Q := by
  intro ws
  refine MetFree.of_bodySF hpl hisR ?_
  intro p e s m args below meth c s₁ Bd hml0 hP hK
  obtain ⟨rfl, hZ, hh⟩ := hP
  have X0 : Stand p l e rm s m args below meth c s₁ [] 0 0 := Stand.of_body Bd
  obtain ⟨t, o, h1, h2, h3, h4⟩ := body p e s m below meth c s₁ ⟨Bd.exec, Bd.bytes, hml0, findClass_of_methodNamed Bd.named, (name_of_methodNamed Bd.named Bd.method).1, Bd.returns, BodyLoose.notSynchronized Bd, hZ⟩ X0 (by rw [← hh, Bd.state]; rfl)
  exact ⟨t, o, castTop (hent m) h1, h2, h3, h4⟩
/-- a contract may say less -/
theorem OwCon.mono {y : MethodName} {rm : Room} {as' : Array Value} {Q Q' : Option Value → Heap → List Loc → Prop} (M : OwCon l y bytes maxL ret rm Z as' h Q) (hq : ∀ v h' L, Q v h' L → Q' v h' L) : OwCon l y bytes maxL ret rm Z as' h Q' := by
  intro ws p e ha hc hk s m args below hf happ hP hK
  obtain ⟨n, o, h1, h2, h3, v, L, h4, h5, h6⟩ := M ws p e ha hc hk s m args below hf happ hP hK
  exact ⟨n, o, h1, h2, h3, v, L, h4, hq _ _ _ h5, h6⟩
/-- two roads that meet -/
theorem ow_join {f f' : JFrame} (X : Stand p l e R s m args below meth c T locs cells slots) (eT : T.heap = h) (A : ∀ D : State → Outcome → Prop, (∀ T', Stand p l e R s m args below meth c T' locs cells slots → T'.heap = h → OwF p e below D T' f') → OwF p e below D T f)
    (k : ∀ T', Stand p l e R s m args below meth c T' locs cells slots → T'.heap = h → OwF p e below D T' f') : OwF p e below D T f := A D k
/-- a long or nothing, in two places -/
def OwTwo (x y : Slot) : Prop := (x = .unset ∧ y = .unset) ∨ ∃ v : Int64, x = .val (.long v) ∧ y = .second
/-- two roads that meet, with locals that are read no more -/
theorem ow_joinL {f : JFrame} {r' : List Value} {P : Array Slot → Prop} (X : Stand p l e R s m args below meth c T locs cells slots) (eT : T.heap = h) (A : ∀ D : State → Outcome → Prop, (∀ Ls' T', P Ls' → Stand p l e R s m args below meth c T' locs cells slots → T'.heap = h → OwF p e below D T' (mkF m pc' Ls' r')) → OwF p e below D T f)
    (k : ∀ Ls' T', P Ls' → Stand p l e R s m args below meth c T' locs cells slots → T'.heap = h → OwF p e below D T' (mkF m pc' Ls' r')) : OwF p e below D T f := A D k
/-! returns -/
theorem ow_retI {Q : Option Value → Heap → List Loc → Prop} {kc ks : Nat} {z : Int32} (C : OwC p Z s m meth c own nm bytes maxL (some .int)) (X : Stand p l e R s m args below meth c T locs cells slots) (hd : decode bytes pc = .ok (.ireturn, 1)) (hc : cells ≤ kc) (hs : slots ≤ ks)
    (hQ : Q (some (.int z)) T.heap locs) : OwF p e below (OwD s below Q kc ks) T (mkF m pc Ls (.int z :: r)) := by
  obtain ⟨hx, hby, -, -, -, hret, hlk, -⟩ := C
  obtain ⟨fs, hr, hrun, hended, hW, hsame⟩ := X.leave (v := some (.int z)) (fun h => by rw [hret] at h; cases h) hlk
  exact ⟨_, _, retI X hx hret (hb hby hd) hr, hrun, hended, _, _, rfl, hQ, ⟨_, rfl⟩, hW, hsame.mono hc hs⟩
theorem ow_retZ {Q : Option Value → Heap → List Loc → Prop} {kc ks : Nat} {z : Int32} (C : OwC p Z s m meth c own nm bytes maxL (some .boolean)) (X : Stand p l e R s m args below meth c T locs cells slots) (hd : decode bytes pc = .ok (.ireturn, 1)) (hc : cells ≤ kc) (hs : slots ≤ ks) (hz : z = 0 ∨ z = 1)
    (hQ : Q (some (.int z)) T.heap locs) : OwF p e below (OwD s below Q kc ks) T (mkF m pc Ls (.int z :: r)) := by
  obtain ⟨hx, hby, -, -, -, hret, hlk, -⟩ := C
  have hn : nar .boolean z = z := by rcases hz with rfl | rfl <;> decide
  obtain ⟨fs, hr, hrun, hended, hW, hsame⟩ := X.leave (v := some (.int z)) (fun h => by rw [hret] at h; cases h) hlk
  exact ⟨_, _, retN X hx hret (by simp) (hb hby hd) (by rw [hn]; exact hr), hrun, hended, _, _, rfl, hQ, ⟨_, rfl⟩, hW, hsame.mono hc hs⟩
theorem ow_retJ {Q : Option Value → Heap → List Loc → Prop} {kc ks : Nat} {z : Int64} (C : OwC p Z s m meth c own nm bytes maxL (some .long)) (X : Stand p l e R s m args below meth c T locs cells slots) (hd : decode bytes pc = .ok (.lreturn, 1)) (hc : cells ≤ kc) (hs : slots ≤ ks)
    (hQ : Q (some (.long z)) T.heap locs) : OwF p e below (OwD s below Q kc ks) T (mkF m pc Ls [.long z]) := by
  obtain ⟨hx, hby, -, -, -, hret, hlk, -⟩ := C
  obtain ⟨fs, hr, hrun, hended, hW, hsame⟩ := X.leave (v := some (.long z)) (fun h => by rw [hret] at h; cases h) hlk
  exact ⟨_, _, X.lreturnOut hx hret (hb hby hd) hr, hrun, hended, _, _, rfl, hQ, ⟨_, rfl⟩, hW, hsame.mono hc hs⟩
theorem ow_retV {Q : Option Value → Heap → List Loc → Prop} {kc ks : Nat} (C : OwC p Z s m meth c own nm bytes maxL none) (X : Stand p l e R s m args below meth c T locs cells slots) (hd : decode bytes pc = .ok (.return_, 1)) (hc : cells ≤ kc) (hs : slots ≤ ks)
    (hQ : Q none T.heap locs) : OwF p e below (OwD s below Q kc ks) T (mkF m pc Ls []) := by
  obtain ⟨hx, hby, -, -, -, hret, hlk, -⟩ := C
  obtain ⟨fs, hr, hrun, hended, hW, hsame⟩ := X.leave (v := none) (fun _ => rfl) hlk
  exact ⟨_, _, X.returnOut hx hret (hb hby hd) hr, hrun, hended, _, _, rfl, hQ, ⟨_, rfl⟩, hW, hsame.mono hc hs⟩
end OwnKit
section OwnSteps
variable {p : Program} {l : Launch} {e : Env} {R : Room} {s : State} {m : MethodId} {args : Array Value} {below : List Frame} {meth : Method} {c : Code} {T : State} {locs : List Loc} {cells slots : Nat} {Z : State} {a0 : Array Value} {h : Heap}
variable {own nm : String} {bytes : ByteArray} {maxL : Nat} {ret : Option FieldType} {D : State → Outcome → Prop} {pc pc' pcT : Nat} {Ls Ls' : Array Slot} {r : List Value}
theorem ow_iadd {x y : Int32} (C : OwC p Z s m meth c own nm bytes maxL ret) (X : Stand p l e R s m args below meth c T locs cells slots) (hd : decode bytes pc = .ok (.iadd, 1))  (hp : pc + 1 = pc') (k : OwF p e below D T (mkF m pc' Ls (.int (x + y) :: r))) : OwF p e below D T (mkF m pc Ls (.int y :: .int x :: r)) := by
  subst hp; exact OwF.st (fun _ q => XS.iadd X.here C.1 rfl (hb C.2.1 hd) rfl q) k
theorem ow_isub {x y : Int32} (C : OwC p Z s m meth c own nm bytes maxL ret) (X : Stand p l e R s m args below meth c T locs cells slots) (hd : decode bytes pc = .ok (.isub, 1))  (hp : pc + 1 = pc') (k : OwF p e below D T (mkF m pc' Ls (.int (x - y) :: r))) : OwF p e below D T (mkF m pc Ls (.int y :: .int x :: r)) := by
  subst hp; exact OwF.st (fun _ q => XS.isub X.here C.1 rfl (hb C.2.1 hd) rfl q) k
theorem ow_imul {x y : Int32} (C : OwC p Z s m meth c own nm bytes maxL ret) (X : Stand p l e R s m args below meth c T locs cells slots) (hd : decode bytes pc = .ok (.imul, 1))  (hp : pc + 1 = pc') (k : OwF p e below D T (mkF m pc' Ls (.int (x * y) :: r))) : OwF p e below D T (mkF m pc Ls (.int y :: .int x :: r)) := by
  subst hp; exact OwF.st (fun _ q => XS.imul X.here C.1 rfl (hb C.2.1 hd) rfl q) k
theorem ow_iand {x y : Int32} (C : OwC p Z s m meth c own nm bytes maxL ret) (X : Stand p l e R s m args below meth c T locs cells slots) (hd : decode bytes pc = .ok (.iand, 1))  (hp : pc + 1 = pc') (k : OwF p e below D T (mkF m pc' Ls (.int (x &&& y) :: r))) : OwF p e below D T (mkF m pc Ls (.int y :: .int x :: r)) := by
  subst hp; exact OwF.st (fun _ q => XS.iand X.here C.1 rfl (hb C.2.1 hd) rfl q) k
theorem ow_ior {x y : Int32} (C : OwC p Z s m meth c own nm bytes maxL ret) (X : Stand p l e R s m args below meth c T locs cells slots) (hd : decode bytes pc = .ok (.ior, 1))  (hp : pc + 1 = pc') (k : OwF p e below D T (mkF m pc' Ls (.int (x ||| y) :: r))) : OwF p e below D T (mkF m pc Ls (.int y :: .int x :: r)) := by
  subst hp; exact OwF.st (fun _ q => XT.ior X.here C.1 rfl (hb C.2.1 hd) rfl q) k
theorem ow_ixor {x y : Int32} (C : OwC p Z s m meth c own nm bytes maxL ret) (X : Stand p l e R s m args below meth c T locs cells slots) (hd : decode bytes pc = .ok (.ixor, 1))  (hp : pc + 1 = pc') (k : OwF p e below D T (mkF m pc' Ls (.int (x ^^^ y) :: r))) : OwF p e below D T (mkF m pc Ls (.int y :: .int x :: r)) := by
  subst hp; exact OwF.st (fun _ q => XT.ixor X.here C.1 rfl (hb C.2.1 hd) rfl q) k
theorem ow_ishl {x y : Int32} (C : OwC p Z s m meth c own nm bytes maxL ret) (X : Stand p l e R s m args below meth c T locs cells slots) (hd : decode bytes pc = .ok (.ishl, 1))  (hp : pc + 1 = pc') (k : OwF p e below D T (mkF m pc' Ls (.int (x <<< (y &&& 31)) :: r))) : OwF p e below D T (mkF m pc Ls (.int y :: .int x :: r)) := by
  subst hp; exact OwF.st (fun _ q => XT.ishl X.here C.1 rfl (hb C.2.1 hd) rfl q) k
theorem ow_ishr {x y : Int32} (C : OwC p Z s m meth c own nm bytes maxL ret) (X : Stand p l e R s m args below meth c T locs cells slots) (hd : decode bytes pc = .ok (.ishr, 1))  (hp : pc + 1 = pc') (k : OwF p e below D T (mkF m pc' Ls (.int (x >>> (y &&& 31)) :: r))) : OwF p e below D T (mkF m pc Ls (.int y :: .int x :: r)) := by
  subst hp; exact OwF.st (fun _ q => XT.ishr X.here C.1 rfl (hb C.2.1 hd) rfl q) k
theorem ow_iushr {x y : Int32} (C : OwC p Z s m meth c own nm bytes maxL ret) (X : Stand p l e R s m args below meth c T locs cells slots) (hd : decode bytes pc = .ok (.iushr, 1))  (hp : pc + 1 = pc') (k : OwF p e below D T (mkF m pc' Ls (.int (XT.ushr x y) :: r))) : OwF p e below D T (mkF m pc Ls (.int y :: .int x :: r)) := by
  subst hp; exact OwF.st (fun _ q => XT.iushr X.here C.1 rfl (hb C.2.1 hd) rfl q) k
theorem ow_idiv {x y : Int32} (C : OwC p Z s m meth c own nm bytes maxL ret) (X : Stand p l e R s m args below meth c T locs cells slots) (hd : decode bytes pc = .ok (.idiv, 1)) (hy : y ≠ 0) (hp : pc + 1 = pc') (k : OwF p e below D T (mkF m pc' Ls (.int (x / y) :: r))) : OwF p e below D T (mkF m pc Ls (.int y :: .int x :: r)) := by
  subst hp; exact OwF.st (fun _ q => XS.idiv X.here C.1 rfl (hb C.2.1 hd) rfl hy q) k
theorem ow_irem {x y : Int32} (C : OwC p Z s m meth c own nm bytes maxL ret) (X : Stand p l e R s m args below meth c T locs cells slots) (hd : decode bytes pc = .ok (.irem, 1)) (hy : y ≠ 0) (hp : pc + 1 = pc') (k : OwF p e below D T (mkF m pc' Ls (.int (x - (x / y) * y) :: r))) : OwF p e below D T (mkF m pc Ls (.int y :: .int x :: r)) := by
  subst hp; exact OwF.st (fun _ q => XS.irem X.here C.1 rfl (hb C.2.1 hd) rfl hy q) k
theorem ow_ladd {x y : Int64} (C : OwC p Z s m meth c own nm bytes maxL ret) (X : Stand p l e R s m args below meth c T locs cells slots) (hd : decode bytes pc = .ok (.ladd, 1))  (hp : pc + 1 = pc') (k : OwF p e below D T (mkF m pc' Ls (.long (x + y) :: r))) : OwF p e below D T (mkF m pc Ls (.long y :: .long x :: r)) := by
  subst hp; exact OwF.st (fun _ q => XT.ladd X.here C.1 rfl (hb C.2.1 hd) rfl q) k
theorem ow_lsub {x y : Int64} (C : OwC p Z s m meth c own nm bytes maxL ret) (X : Stand p l e R s m args below meth c T locs cells slots) (hd : decode bytes pc = .ok (.lsub, 1))  (hp : pc + 1 = pc') (k : OwF p e below D T (mkF m pc' Ls (.long (x - y) :: r))) : OwF p e below D T (mkF m pc Ls (.long y :: .long x :: r)) := by
  subst hp; exact OwF.st (fun _ q => XT.lsub X.here C.1 rfl (hb C.2.1 hd) rfl q) k
theorem ow_lmul {x y : Int64} (C : OwC p Z s m meth c own nm bytes maxL ret) (X : Stand p l e R s m args below meth c T locs cells slots) (hd : decode bytes pc = .ok (.lmul, 1))  (hp : pc + 1 = pc') (k : OwF p e below D T (mkF m pc' Ls (.long (x * y) :: r))) : OwF p e below D T (mkF m pc Ls (.long y :: .long x :: r)) := by
  subst hp; exact OwF.st (fun _ q => XT.lmul X.here C.1 rfl (hb C.2.1 hd) rfl q) k
theorem ow_land {x y : Int64} (C : OwC p Z s m meth c own nm bytes maxL ret) (X : Stand p l e R s m args below meth c T locs cells slots) (hd : decode bytes pc = .ok (.land, 1))  (hp : pc + 1 = pc') (k : OwF p e below D T (mkF m pc' Ls (.long (x &&& y) :: r))) : OwF p e below D T (mkF m pc Ls (.long y :: .long x :: r)) := by
  subst hp; exact OwF.st (fun _ q => XT.land X.here C.1 rfl (hb C.2.1 hd) rfl q) k
theorem ow_lor {x y : Int64} (C : OwC p Z s m meth c own nm bytes maxL ret) (X : Stand p l e R s m args below meth c T locs cells slots) (hd : decode bytes pc = .ok (.lor, 1))  (hp : pc + 1 = pc') (k : OwF p e below D T (mkF m pc' Ls (.long (x ||| y) :: r))) : OwF p e below D T (mkF m pc Ls (.long y :: .long x :: r)) := by
  subst hp; exact OwF.st (fun _ q => XT.lor X.here C.1 rfl (hb C.2.1 hd) rfl q) k
theorem ow_lxor {x y : Int64} (C : OwC p Z s m meth c own nm bytes maxL ret) (X : Stand p l e R s m args below meth c T locs cells slots) (hd : decode bytes pc = .ok (.lxor, 1))  (hp : pc + 1 = pc') (k : OwF p e below D T (mkF m pc' Ls (.long (x ^^^ y) :: r))) : OwF p e below D T (mkF m pc Ls (.long y :: .long x :: r)) := by
  subst hp; exact OwF.st (fun _ q => XT.lxor X.here C.1 rfl (hb C.2.1 hd) rfl q) k
theorem ow_ldiv {x y : Int64} (C : OwC p Z s m meth c own nm bytes maxL ret) (X : Stand p l e R s m args below meth c T locs cells slots) (hd : decode bytes pc = .ok (.ldiv, 1)) (hy : y ≠ 0) (hp : pc + 1 = pc') (k : OwF p e below D T (mkF m pc' Ls (.long (x / y) :: r))) : OwF p e below D T (mkF m pc Ls (.long y :: .long x :: r)) := by
  subst hp; exact OwF.st (fun _ q => XT.ldiv X.here C.1 rfl (hb C.2.1 hd) rfl hy q) k
theorem ow_lrem {x y : Int64} (C : OwC p Z s m meth c own nm bytes maxL ret) (X : Stand p l e R s m args below meth c T locs cells slots) (hd : decode bytes pc = .ok (.lrem, 1)) (hy : y ≠ 0) (hp : pc + 1 = pc') (k : OwF p e below D T (mkF m pc' Ls (.long (x - (x / y) * y) :: r))) : OwF p e below D T (mkF m pc Ls (.long y :: .long x :: r)) := by
  subst hp; exact OwF.st (fun _ q => XT.lrem X.here C.1 rfl (hb C.2.1 hd) rfl hy q) k
theorem ow_lshl {x : Int64} {y : Int32} (C : OwC p Z s m meth c own nm bytes maxL ret) (X : Stand p l e R s m args below meth c T locs cells slots) (hd : decode bytes pc = .ok (.lshl, 1))  (hp : pc + 1 = pc') (k : OwF p e below D T (mkF m pc' Ls (.long (x <<< (y.toInt64 &&& 63)) :: r))) : OwF p e below D T (mkF m pc Ls (.int y :: .long x :: r)) := by
  subst hp; exact OwF.st (fun _ q => XT.lshl X.here C.1 rfl (hb C.2.1 hd) rfl q) k
theorem ow_lshr {x : Int64} {y : Int32} (C : OwC p Z s m meth c own nm bytes maxL ret) (X : Stand p l e R s m args below meth c T locs cells slots) (hd : decode bytes pc = .ok (.lshr, 1))  (hp : pc + 1 = pc') (k : OwF p e below D T (mkF m pc' Ls (.long (x >>> (y.toInt64 &&& 63)) :: r))) : OwF p e below D T (mkF m pc Ls (.int y :: .long x :: r)) := by
  subst hp; exact OwF.st (fun _ q => XT.lshr X.here C.1 rfl (hb C.2.1 hd) rfl q) k
theorem ow_lushr {x : Int64} {y : Int32} (C : OwC p Z s m meth c own nm bytes maxL ret) (X : Stand p l e R s m args below meth c T locs cells slots) (hd : decode bytes pc = .ok (.lushr, 1))  (hp : pc + 1 = pc') (k : OwF p e below D T (mkF m pc' Ls (.long (XT.ushrL x y) :: r))) : OwF p e below D T (mkF m pc Ls (.int y :: .long x :: r)) := by
  subst hp; exact OwF.st (fun _ q => XT.lushr X.here C.1 rfl (hb C.2.1 hd) rfl q) k
theorem ow_lcmp {x y : Int64} (C : OwC p Z s m meth c own nm bytes maxL ret) (X : Stand p l e R s m args below meth c T locs cells slots) (hd : decode bytes pc = .ok (.lcmp, 1))  (hp : pc + 1 = pc') (k : OwF p e below D T (mkF m pc' Ls (.int (XT.cmpL x y) :: r))) : OwF p e below D T (mkF m pc Ls (.long y :: .long x :: r)) := by
  subst hp; exact OwF.st (fun _ q => XT.lcmp X.here C.1 rfl (hb C.2.1 hd) rfl q) k
theorem ow_ineg {x : Int32} (C : OwC p Z s m meth c own nm bytes maxL ret) (X : Stand p l e R s m args below meth c T locs cells slots) (hd : decode bytes pc = .ok (.ineg, 1))  (hp : pc + 1 = pc') (k : OwF p e below D T (mkF m pc' Ls (.int (-x) :: r))) : OwF p e below D T (mkF m pc Ls (.int x :: r)) := by
  subst hp; exact OwF.st (fun _ q => XS.ineg X.here C.1 rfl (hb C.2.1 hd) rfl q) k
theorem ow_lneg {x : Int64} (C : OwC p Z s m meth c own nm bytes maxL ret) (X : Stand p l e R s m args below meth c T locs cells slots) (hd : decode bytes pc = .ok (.lneg, 1))  (hp : pc + 1 = pc') (k : OwF p e below D T (mkF m pc' Ls (.long (-x) :: r))) : OwF p e below D T (mkF m pc Ls (.long x :: r)) := by
  subst hp; exact OwF.st (fun _ q => XT.lneg X.here C.1 rfl (hb C.2.1 hd) rfl q) k
theorem ow_i2l {x : Int32} (C : OwC p Z s m meth c own nm bytes maxL ret) (X : Stand p l e R s m args below meth c T locs cells slots) (hd : decode bytes pc = .ok (.i2l, 1))  (hp : pc + 1 = pc') (k : OwF p e below D T (mkF m pc' Ls (.long x.toInt64 :: r))) : OwF p e below D T (mkF m pc Ls (.int x :: r)) := by
  subst hp; exact OwF.st (fun _ q => XT.i2l X.here C.1 rfl (hb C.2.1 hd) rfl q) k
theorem ow_l2i {x : Int64} (C : OwC p Z s m meth c own nm bytes maxL ret) (X : Stand p l e R s m args below meth c T locs cells slots) (hd : decode bytes pc = .ok (.l2i, 1))  (hp : pc + 1 = pc') (k : OwF p e below D T (mkF m pc' Ls (.int x.toInt32 :: r))) : OwF p e below D T (mkF m pc Ls (.long x :: r)) := by
  subst hp; exact OwF.st (fun _ q => XT.l2i X.here C.1 rfl (hb C.2.1 hd) rfl q) k
theorem ow_i2b {x : Int32} (C : OwC p Z s m meth c own nm bytes maxL ret) (X : Stand p l e R s m args below meth c T locs cells slots) (hd : decode bytes pc = .ok (.i2b, 1))  (hp : pc + 1 = pc') (k : OwF p e below D T (mkF m pc' Ls (.int x.toInt8.toInt32 :: r))) : OwF p e below D T (mkF m pc Ls (.int x :: r)) := by
  subst hp; exact OwF.st (fun _ q => XT.i2b X.here C.1 rfl (hb C.2.1 hd) rfl q) k
theorem ow_i2c {x : Int32} (C : OwC p Z s m meth c own nm bytes maxL ret) (X : Stand p l e R s m args below meth c T locs cells slots) (hd : decode bytes pc = .ok (.i2c, 1))  (hp : pc + 1 = pc') (k : OwF p e below D T (mkF m pc' Ls (.int x.toUInt32.toUInt16.toUInt32.toInt32 :: r))) : OwF p e below D T (mkF m pc Ls (.int x :: r)) := by
  subst hp; exact OwF.st (fun _ q => XT.i2c X.here C.1 rfl (hb C.2.1 hd) rfl q) k
theorem ow_i2s {x : Int32} (C : OwC p Z s m meth c own nm bytes maxL ret) (X : Stand p l e R s m args below meth c T locs cells slots) (hd : decode bytes pc = .ok (.i2s, 1))  (hp : pc + 1 = pc') (k : OwF p e below D T (mkF m pc' Ls (.int x.toInt16.toInt32 :: r))) : OwF p e below D T (mkF m pc Ls (.int x :: r)) := by
  subst hp; exact OwF.st (fun _ q => XT.i2s X.here C.1 rfl (hb C.2.1 hd) rfl q) k
theorem ow_dup {v : Value} (C : OwC p Z s m meth c own nm bytes maxL ret) (X : Stand p l e R s m args below meth c T locs cells slots) (hd : decode bytes pc = .ok (.dup, 1)) (hc : v.category = 1) (hp : pc + 1 = pc') (k : OwF p e below D T (mkF m pc' Ls (v :: v :: r))) : OwF p e below D T (mkF m pc Ls (v :: r)) := by
  subst hp; exact OwF.st (fun _ q => XS.dup X.here C.1 rfl (hb C.2.1 hd) rfl hc q) k
theorem ow_pop {v : Value} (C : OwC p Z s m meth c own nm bytes maxL ret) (X : Stand p l e R s m args below meth c T locs cells slots) (hd : decode bytes pc = .ok (.pop, 1)) (hc : v.category = 1) (hp : pc + 1 = pc') (k : OwF p e below D T (mkF m pc' Ls (r))) : OwF p e below D T (mkF m pc Ls (v :: r)) := by
  subst hp; exact OwF.st (fun _ q => XT.pop X.here C.1 rfl (hb C.2.1 hd) rfl hc q) k
theorem ow_dupX1 {v w : Value} (C : OwC p Z s m meth c own nm bytes maxL ret) (X : Stand p l e R s m args below meth c T locs cells slots) (hd : decode bytes pc = .ok (.dup_x1, 1)) (hc : v.category = 1) (hc' : w.category = 1) (hp : pc + 1 = pc') (k : OwF p e below D T (mkF m pc' Ls (v :: w :: v :: r))) : OwF p e below D T (mkF m pc Ls (v :: w :: r)) := by
  subst hp; exact OwF.st (fun _ q => XT.dupX1 X.here C.1 rfl (hb C.2.1 hd) rfl hc hc' q) k
theorem ow_dup2 {v w : Value} (C : OwC p Z s m meth c own nm bytes maxL ret) (X : Stand p l e R s m args below meth c T locs cells slots) (hd : decode bytes pc = .ok (.dup2, 1)) (hc : v.category = 1) (hc' : w.category = 1) (hp : pc + 1 = pc') (k : OwF p e below D T (mkF m pc' Ls (v :: w :: v :: w :: r))) : OwF p e below D T (mkF m pc Ls (v :: w :: r)) := by
  subst hp; exact OwF.st (fun _ q => XT.dup2 X.here C.1 rfl (hb C.2.1 hd) rfl hc hc' q) k
theorem ow_dup2L {x : Int64} (C : OwC p Z s m meth c own nm bytes maxL ret) (X : Stand p l e R s m args below meth c T locs cells slots) (hd : decode bytes pc = .ok (.dup2, 1))  (hp : pc + 1 = pc') (k : OwF p e below D T (mkF m pc' Ls (.long x :: .long x :: r))) : OwF p e below D T (mkF m pc Ls (.long x :: r)) := by
  subst hp; exact OwF.st (fun _ q => XT.dup2L X.here C.1 rfl (hb C.2.1 hd) rfl q) k
theorem ow_aconstNull  (C : OwC p Z s m meth c own nm bytes maxL ret) (X : Stand p l e R s m args below meth c T locs cells slots) (hd : decode bytes pc = .ok (.aconst_null, 1))  (hp : pc + 1 = pc') (k : OwF p e below D T (mkF m pc' Ls (.null :: r))) : OwF p e below D T (mkF m pc Ls (r)) := by
  subst hp; exact OwF.st (fun _ q => XS.aconstNull X.here C.1 rfl (hb C.2.1 hd)  q) k
theorem ow_iloadN {j : Fin 4} {v : Int32} (C : OwC p Z s m meth c own nm bytes maxL ret) (X : Stand p l e R s m args below meth c T locs cells slots) (hd : decode bytes pc = .ok (.iload_n j, 1)) (hl : Ls[j.val]? = some (.val (.int v))) (hp : pc + 1 = pc') (k : OwF p e below D T (mkF m pc' Ls (.int v :: r))) : OwF p e below D T (mkF m pc Ls (r)) := by
  subst hp; exact OwF.st (fun _ q => XS.iloadN X.here C.1 rfl (hb C.2.1 hd) hl q) k
theorem ow_iload {j : Nat} {v : Int32} (C : OwC p Z s m meth c own nm bytes maxL ret) (X : Stand p l e R s m args below meth c T locs cells slots) (hd : decode bytes pc = .ok (.iload j, 2)) (hl : Ls[j]? = some (.val (.int v))) (hp : pc + 2 = pc') (k : OwF p e below D T (mkF m pc' Ls (.int v :: r))) : OwF p e below D T (mkF m pc Ls (r)) := by
  subst hp; exact OwF.st (fun _ q => XS.iload X.here C.1 rfl (hb C.2.1 hd) hl q) k
theorem ow_lloadN {j : Fin 4} {v : Int64} (C : OwC p Z s m meth c own nm bytes maxL ret) (X : Stand p l e R s m args below meth c T locs cells slots) (hd : decode bytes pc = .ok (.lload_n j, 1)) (hl : Ls[j.val]? = some (.val (.long v))) (hp : pc + 1 = pc') (k : OwF p e below D T (mkF m pc' Ls (.long v :: r))) : OwF p e below D T (mkF m pc Ls (r)) := by
  subst hp; exact OwF.st (fun _ q => XT.lloadN X.here C.1 rfl (hb C.2.1 hd) hl q) k
theorem ow_lload {j : Nat} {v : Int64} (C : OwC p Z s m meth c own nm bytes maxL ret) (X : Stand p l e R s m args below meth c T locs cells slots) (hd : decode bytes pc = .ok (.lload j, 2)) (hl : Ls[j]? = some (.val (.long v))) (hp : pc + 2 = pc') (k : OwF p e below D T (mkF m pc' Ls (.long v :: r))) : OwF p e below D T (mkF m pc Ls (r)) := by
  subst hp; exact OwF.st (fun _ q => XT.lload X.here C.1 rfl (hb C.2.1 hd) hl q) k
theorem ow_aloadN {j : Fin 4} {v : Value} (C : OwC p Z s m meth c own nm bytes maxL ret) (X : Stand p l e R s m args below meth c T locs cells slots) (hd : decode bytes pc = .ok (.aload_n j, 1)) (hl : Ls[j.val]? = some (.val v)) (hv : v.isRef = true) (hp : pc + 1 = pc') (k : OwF p e below D T (mkF m pc' Ls (v :: r))) : OwF p e below D T (mkF m pc Ls (r)) := by
  subst hp; exact OwF.st (fun _ q => XS.aloadN X.here C.1 rfl (hb C.2.1 hd) hl hv q) k
theorem ow_aload {j : Nat} {v : Value} (C : OwC p Z s m meth c own nm bytes maxL ret) (X : Stand p l e R s m args below meth c T locs cells slots) (hd : decode bytes pc = .ok (.aload j, 2)) (hl : Ls[j]? = some (.val v)) (hv : v.isRef = true) (hp : pc + 2 = pc') (k : OwF p e below D T (mkF m pc' Ls (v :: r))) : OwF p e below D T (mkF m pc Ls (r)) := by
  subst hp; exact OwF.st (fun _ q => XS.aload X.here C.1 rfl (hb C.2.1 hd) hl hv q) k
theorem ow_istoreN {j : Fin 4} {v : Int32} (C : OwC p Z s m meth c own nm bytes maxL ret) (X : Stand p l e R s m args below meth c T locs cells slots) (hd : decode bytes pc = .ok (.istore_n j, 1)) (hl : storeLocals Ls j.val (.int v) = some Ls') (hp : pc + 1 = pc') (k : OwF p e below D T (mkF m pc' Ls' (r))) : OwF p e below D T (mkF m pc Ls (.int v :: r)) := by
  subst hp; exact OwF.st (fun _ q => XS.istoreN X.here C.1 rfl (hb C.2.1 hd) rfl hl q) k
theorem ow_istore {j : Nat} {v : Int32} (C : OwC p Z s m meth c own nm bytes maxL ret) (X : Stand p l e R s m args below meth c T locs cells slots) (hd : decode bytes pc = .ok (.istore j, 2)) (hl : storeLocals Ls j (.int v) = some Ls') (hp : pc + 2 = pc') (k : OwF p e below D T (mkF m pc' Ls' (r))) : OwF p e below D T (mkF m pc Ls (.int v :: r)) := by
  subst hp; exact OwF.st (fun _ q => XS.istore X.here C.1 rfl (hb C.2.1 hd) rfl hl q) k
theorem ow_lstoreN {j : Fin 4} {v : Int64} (C : OwC p Z s m meth c own nm bytes maxL ret) (X : Stand p l e R s m args below meth c T locs cells slots) (hd : decode bytes pc = .ok (.lstore_n j, 1)) (hl : storeLocals Ls j.val (.long v) = some Ls') (hp : pc + 1 = pc') (k : OwF p e below D T (mkF m pc' Ls' (r))) : OwF p e below D T (mkF m pc Ls (.long v :: r)) := by
  subst hp; exact OwF.st (fun _ q => XT.lstoreN X.here C.1 rfl (hb C.2.1 hd) rfl hl q) k
theorem ow_lstore {j : Nat} {v : Int64} (C : OwC p Z s m meth c own nm bytes maxL ret) (X : Stand p l e R s m args below meth c T locs cells slots) (hd : decode bytes pc = .ok (.lstore j, 2)) (hl : storeLocals Ls j (.long v) = some Ls') (hp : pc + 2 = pc') (k : OwF p e below D T (mkF m pc' Ls' (r))) : OwF p e below D T (mkF m pc Ls (.long v :: r)) := by
  subst hp; exact OwF.st (fun _ q => XT.lstore X.here C.1 rfl (hb C.2.1 hd) rfl hl q) k
theorem ow_astoreN {j : Fin 4} {v : Value} (C : OwC p Z s m meth c own nm bytes maxL ret) (X : Stand p l e R s m args below meth c T locs cells slots) (hd : decode bytes pc = .ok (.astore_n j, 1)) (hv : v.isRef = true) (hl : storeLocals Ls j.val v = some Ls') (hp : pc + 1 = pc') (k : OwF p e below D T (mkF m pc' Ls' (r))) : OwF p e below D T (mkF m pc Ls (v :: r)) := by
  subst hp; exact OwF.st (fun _ q => XS.astoreN X.here C.1 rfl (hb C.2.1 hd) rfl hv hl q) k
theorem ow_astore {j : Nat} {v : Value} (C : OwC p Z s m meth c own nm bytes maxL ret) (X : Stand p l e R s m args below meth c T locs cells slots) (hd : decode bytes pc = .ok (.astore j, 2)) (hv : v.isRef = true) (hl : storeLocals Ls j v = some Ls') (hp : pc + 2 = pc') (k : OwF p e below D T (mkF m pc' Ls' (r))) : OwF p e below D T (mkF m pc Ls (v :: r)) := by
  subst hp; exact OwF.st (fun _ q => XS.astore X.here C.1 rfl (hb C.2.1 hd) rfl hv hl q) k
theorem ow_iconst {i : Int} (v : Int32) (C : OwC p Z s m meth c own nm bytes maxL ret) (X : Stand p l e R s m args below meth c T locs cells slots) (hd : decode bytes pc = .ok (.iconst i, 1)) (hv : Int32.ofInt i = v) (hp : pc + 1 = pc') (k : OwF p e below D T (mkF m pc' Ls (.int v :: r))) : OwF p e below D T (mkF m pc Ls r) := by
  subst hp; subst hv; exact OwF.st (fun _ q => XS.iconst X.here C.1 rfl (hb C.2.1 hd) q) k
theorem ow_bipush {i : Int} (v : Int32) (C : OwC p Z s m meth c own nm bytes maxL ret) (X : Stand p l e R s m args below meth c T locs cells slots) (hd : decode bytes pc = .ok (.bipush i, 2)) (hv : (Int8.ofInt i).toInt32 = v) (hp : pc + 2 = pc') (k : OwF p e below D T (mkF m pc' Ls (.int v :: r))) : OwF p e below D T (mkF m pc Ls r) := by
  subst hp; subst hv; exact OwF.st (fun _ q => XS.bipush X.here C.1 rfl (hb C.2.1 hd) q) k
theorem ow_sipush {i : Int} (v : Int32) (C : OwC p Z s m meth c own nm bytes maxL ret) (X : Stand p l e R s m args below meth c T locs cells slots) (hd : decode bytes pc = .ok (.sipush i, 3)) (hv : (Int16.ofInt i).toInt32 = v) (hp : pc + 3 = pc') (k : OwF p e below D T (mkF m pc' Ls (.int v :: r))) : OwF p e below D T (mkF m pc Ls r) := by
  subst hp; subst hv; exact OwF.st (fun _ q => XS.sipush X.here C.1 rfl (hb C.2.1 hd) q) k
theorem ow_lconst {i : Fin 2} (v : Int64) (C : OwC p Z s m meth c own nm bytes maxL ret) (X : Stand p l e R s m args below meth c T locs cells slots) (hd : decode bytes pc = .ok (.lconst i, 1)) (hv : Int64.ofNat i = v) (hp : pc + 1 = pc') (k : OwF p e below D T (mkF m pc' Ls (.long v :: r))) : OwF p e below D T (mkF m pc Ls r) := by
  subst hp; subst hv; exact OwF.st (fun _ q => XT.lconst X.here C.1 rfl (hb C.2.1 hd) q) k
theorem ow_iinc {i : Int} {j : Nat} {x : Int32} (v : Int32) (C : OwC p Z s m meth c own nm bytes maxL ret) (X : Stand p l e R s m args below meth c T locs cells slots) (hd : decode bytes pc = .ok (.iinc j i, 3)) (hv : Int32.ofInt i = v) (hl : Ls[j]? = some (.val (.int x))) (hl' : storeLocals Ls j (.int (x + v)) = some Ls') (hp : pc + 3 = pc') (k : OwF p e below D T (mkF m pc' Ls' r)) : OwF p e below D T (mkF m pc Ls r) := by
  subst hp; subst hv; exact OwF.st (fun _ q => XS.iinc X.here C.1 rfl (hb C.2.1 hd) hl hl' q) k
theorem ow_ldc {i : Nat} {v : Int32} (C : OwC p Z s m meth c own nm bytes maxL ret) (X : Stand p l e R s m args below meth c T locs cells slots) (w : (Jvm.Cond.constant own i v).before a0 Z = true) (hd : decode bytes pc = .ok (.ldc i, 2)) (hp : pc + 2 = pc') (k : OwF p e below D T (mkF m pc' Ls (.int v :: r))) : OwF p e below D T (mkF m pc Ls r) := by
  subst hp; exact OwF.st (fun _ q => X.ldcI C.1 C.2.2.2.1 (mvT C.2.2.2.2.2.2.2 w) rfl (hb C.2.1 hd) q) k
theorem ow_ldcW {i : Nat} {v : Int32} (C : OwC p Z s m meth c own nm bytes maxL ret) (X : Stand p l e R s m args below meth c T locs cells slots) (w : (Jvm.Cond.constant own i v).before a0 Z = true) (hd : decode bytes pc = .ok (.ldc_w i, 3)) (hp : pc + 3 = pc') (k : OwF p e below D T (mkF m pc' Ls (.int v :: r))) : OwF p e below D T (mkF m pc Ls r) := by
  subst hp; exact OwF.st (fun _ q => X.ldcWI C.1 C.2.2.2.1 (mvT C.2.2.2.2.2.2.2 w) rfl (hb C.2.1 hd) q) k
theorem ow_ldc2 {i : Nat} {v : Int64} (C : OwC p Z s m meth c own nm bytes maxL ret) (X : Stand p l e R s m args below meth c T locs cells slots) (w : (Jvm.Cond.constantLong own i v).before a0 Z = true) (hd : decode bytes pc = .ok (.ldc2_w i, 3)) (hp : pc + 3 = pc') (k : OwF p e below D T (mkF m pc' Ls (.long v :: r))) : OwF p e below D T (mkF m pc Ls r) := by
  subst hp; exact OwF.st (fun _ q => X.ldc2J C.1 C.2.2.2.1 (mvT C.2.2.2.2.2.2.2 w) rfl (hb C.2.1 hd) q) k
theorem ow_goto {o : Int} (C : OwC p Z s m meth c own nm bytes maxL ret) (X : Stand p l e R s m args below meth c T locs cells slots) (hd : decode bytes pc = .ok (.goto o, 3)) (ho : 0 ≤ (pc : Int) + o) (ht : ((pc : Int) + o).toNat = pcT) (k : OwF p e below D T (mkF m pcT Ls r)) : OwF p e below D T (mkF m pc Ls r) :=
  OwF.st (fun _ q => XS.goto X.here C.1 rfl rfl (hb C.2.1 hd) ho ht q) k
theorem ow_if_eq {x : Int32} {o : Int} (C : OwC p Z s m meth c own nm bytes maxL ret) (X : Stand p l e R s m args below meth c T locs cells slots) (hd : decode bytes pc = .ok (.ifCond .eq o, 3)) (ho : 0 ≤ (pc : Int) + o) (ht : ((pc : Int) + o).toNat = pcT) (hp : pc + 3 = pc') (k1 : x = 0 → OwF p e below D T (mkF m pcT Ls r)) (k2 : ¬ x = 0 → OwF p e below D T (mkF m pc' Ls r)) : OwF p e below D T (mkF m pc Ls (.int x :: r)) := by
  subst hp
  by_cases hq : x = 0
  · exact OwF.st (fun _ q => XS.ifYes X.here C.1 rfl rfl (hb C.2.1 hd) rfl (XT.i0_eq_t hq) ho ht q) (k1 hq)
  · exact OwF.st (fun _ q => XS.ifNo X.here C.1 rfl (hb C.2.1 hd) rfl (XT.i0_eq_f hq) q) (k2 hq)
theorem ow_icmp_eq {x y : Int32} {o : Int} (C : OwC p Z s m meth c own nm bytes maxL ret) (X : Stand p l e R s m args below meth c T locs cells slots) (hd : decode bytes pc = .ok (.if_icmp .eq o, 3)) (ho : 0 ≤ (pc : Int) + o) (ht : ((pc : Int) + o).toNat = pcT) (hp : pc + 3 = pc') (k1 : x = y → OwF p e below D T (mkF m pcT Ls r)) (k2 : ¬ x = y → OwF p e below D T (mkF m pc' Ls r)) : OwF p e below D T (mkF m pc Ls (.int y :: .int x :: r)) := by
  subst hp
  by_cases hq : x = y
  · exact OwF.st (fun _ q => XS.icmpYes X.here C.1 rfl rfl (hb C.2.1 hd) rfl (XT.ii_eq_t hq) ho ht q) (k1 hq)
  · exact OwF.st (fun _ q => XS.icmpNo X.here C.1 rfl (hb C.2.1 hd) rfl (XT.ii_eq_f hq) q) (k2 hq)
theorem ow_lif_eq {x y : Int64} {o : Int} (C : OwC p Z s m meth c own nm bytes maxL ret) (X : Stand p l e R s m args below meth c T locs cells slots) (hd : decode bytes pc = .ok (.ifCond .eq o, 3)) (ho : 0 ≤ (pc : Int) + o) (ht : ((pc : Int) + o).toNat = pcT) (hp : pc + 3 = pc') (k1 : x = y → OwF p e below D T (mkF m pcT Ls r)) (k2 : ¬ x = y → OwF p e below D T (mkF m pc' Ls r)) : OwF p e below D T (mkF m pc Ls (.int (XT.cmpL x y) :: r)) := by
  subst hp
  by_cases hq : x = y
  · exact OwF.st (fun _ q => XS.ifYes X.here C.1 rfl rfl (hb C.2.1 hd) rfl (XT.ll_eq_t hq) ho ht q) (k1 hq)
  · exact OwF.st (fun _ q => XS.ifNo X.here C.1 rfl (hb C.2.1 hd) rfl (XT.ll_eq_f hq) q) (k2 hq)
theorem ow_if_ne {x : Int32} {o : Int} (C : OwC p Z s m meth c own nm bytes maxL ret) (X : Stand p l e R s m args below meth c T locs cells slots) (hd : decode bytes pc = .ok (.ifCond .ne o, 3)) (ho : 0 ≤ (pc : Int) + o) (ht : ((pc : Int) + o).toNat = pcT) (hp : pc + 3 = pc') (k1 : ¬ x = 0 → OwF p e below D T (mkF m pcT Ls r)) (k2 : x = 0 → OwF p e below D T (mkF m pc' Ls r)) : OwF p e below D T (mkF m pc Ls (.int x :: r)) := by
  subst hp
  by_cases hq : x = 0
  · exact OwF.st (fun _ q => XS.ifNo X.here C.1 rfl (hb C.2.1 hd) rfl (XT.i0_ne_f hq) q) (k2 hq)
  · exact OwF.st (fun _ q => XS.ifYes X.here C.1 rfl rfl (hb C.2.1 hd) rfl (XT.i0_ne_t hq) ho ht q) (k1 hq)
theorem ow_icmp_ne {x y : Int32} {o : Int} (C : OwC p Z s m meth c own nm bytes maxL ret) (X : Stand p l e R s m args below meth c T locs cells slots) (hd : decode bytes pc = .ok (.if_icmp .ne o, 3)) (ho : 0 ≤ (pc : Int) + o) (ht : ((pc : Int) + o).toNat = pcT) (hp : pc + 3 = pc') (k1 : ¬ x = y → OwF p e below D T (mkF m pcT Ls r)) (k2 : x = y → OwF p e below D T (mkF m pc' Ls r)) : OwF p e below D T (mkF m pc Ls (.int y :: .int x :: r)) := by
  subst hp
  by_cases hq : x = y
  · exact OwF.st (fun _ q => XS.icmpNo X.here C.1 rfl (hb C.2.1 hd) rfl (XT.ii_ne_f hq) q) (k2 hq)
  · exact OwF.st (fun _ q => XS.icmpYes X.here C.1 rfl rfl (hb C.2.1 hd) rfl (XT.ii_ne_t hq) ho ht q) (k1 hq)
theorem ow_lif_ne {x y : Int64} {o : Int} (C : OwC p Z s m meth c own nm bytes maxL ret) (X : Stand p l e R s m args below meth c T locs cells slots) (hd : decode bytes pc = .ok (.ifCond .ne o, 3)) (ho : 0 ≤ (pc : Int) + o) (ht : ((pc : Int) + o).toNat = pcT) (hp : pc + 3 = pc') (k1 : ¬ x = y → OwF p e below D T (mkF m pcT Ls r)) (k2 : x = y → OwF p e below D T (mkF m pc' Ls r)) : OwF p e below D T (mkF m pc Ls (.int (XT.cmpL x y) :: r)) := by
  subst hp
  by_cases hq : x = y
  · exact OwF.st (fun _ q => XS.ifNo X.here C.1 rfl (hb C.2.1 hd) rfl (XT.ll_ne_f hq) q) (k2 hq)
  · exact OwF.st (fun _ q => XS.ifYes X.here C.1 rfl rfl (hb C.2.1 hd) rfl (XT.ll_ne_t hq) ho ht q) (k1 hq)
theorem ow_if_lt {x : Int32} {o : Int} (C : OwC p Z s m meth c own nm bytes maxL ret) (X : Stand p l e R s m args below meth c T locs cells slots) (hd : decode bytes pc = .ok (.ifCond .lt o, 3)) (ho : 0 ≤ (pc : Int) + o) (ht : ((pc : Int) + o).toNat = pcT) (hp : pc + 3 = pc') (k1 : x < 0 → OwF p e below D T (mkF m pcT Ls r)) (k2 : ¬ x < 0 → OwF p e below D T (mkF m pc' Ls r)) : OwF p e below D T (mkF m pc Ls (.int x :: r)) := by
  subst hp
  by_cases hq : x < 0
  · exact OwF.st (fun _ q => XS.ifYes X.here C.1 rfl rfl (hb C.2.1 hd) rfl (XT.i0_lt_t hq) ho ht q) (k1 hq)
  · exact OwF.st (fun _ q => XS.ifNo X.here C.1 rfl (hb C.2.1 hd) rfl (XT.i0_lt_f hq) q) (k2 hq)
theorem ow_icmp_lt {x y : Int32} {o : Int} (C : OwC p Z s m meth c own nm bytes maxL ret) (X : Stand p l e R s m args below meth c T locs cells slots) (hd : decode bytes pc = .ok (.if_icmp .lt o, 3)) (ho : 0 ≤ (pc : Int) + o) (ht : ((pc : Int) + o).toNat = pcT) (hp : pc + 3 = pc') (k1 : x < y → OwF p e below D T (mkF m pcT Ls r)) (k2 : ¬ x < y → OwF p e below D T (mkF m pc' Ls r)) : OwF p e below D T (mkF m pc Ls (.int y :: .int x :: r)) := by
  subst hp
  by_cases hq : x < y
  · exact OwF.st (fun _ q => XS.icmpYes X.here C.1 rfl rfl (hb C.2.1 hd) rfl (XT.ii_lt_t hq) ho ht q) (k1 hq)
  · exact OwF.st (fun _ q => XS.icmpNo X.here C.1 rfl (hb C.2.1 hd) rfl (XT.ii_lt_f hq) q) (k2 hq)
theorem ow_lif_lt {x y : Int64} {o : Int} (C : OwC p Z s m meth c own nm bytes maxL ret) (X : Stand p l e R s m args below meth c T locs cells slots) (hd : decode bytes pc = .ok (.ifCond .lt o, 3)) (ho : 0 ≤ (pc : Int) + o) (ht : ((pc : Int) + o).toNat = pcT) (hp : pc + 3 = pc') (k1 : x < y → OwF p e below D T (mkF m pcT Ls r)) (k2 : ¬ x < y → OwF p e below D T (mkF m pc' Ls r)) : OwF p e below D T (mkF m pc Ls (.int (XT.cmpL x y) :: r)) := by
  subst hp
  by_cases hq : x < y
  · exact OwF.st (fun _ q => XS.ifYes X.here C.1 rfl rfl (hb C.2.1 hd) rfl (XT.ll_lt_t hq) ho ht q) (k1 hq)
  · exact OwF.st (fun _ q => XS.ifNo X.here C.1 rfl (hb C.2.1 hd) rfl (XT.ll_lt_f hq) q) (k2 hq)
theorem ow_if_ge {x : Int32} {o : Int} (C : OwC p Z s m meth c own nm bytes maxL ret) (X : Stand p l e R s m args below meth c T locs cells slots) (hd : decode bytes pc = .ok (.ifCond .ge o, 3)) (ho : 0 ≤ (pc : Int) + o) (ht : ((pc : Int) + o).toNat = pcT) (hp : pc + 3 = pc') (k1 : ¬ x < 0 → OwF p e below D T (mkF m pcT Ls r)) (k2 : x < 0 → OwF p e below D T (mkF m pc' Ls r)) : OwF p e below D T (mkF m pc Ls (.int x :: r)) := by
  subst hp
  by_cases hq : x < 0
  · exact OwF.st (fun _ q => XS.ifNo X.here C.1 rfl (hb C.2.1 hd) rfl (XT.i0_ge_f hq) q) (k2 hq)
  · exact OwF.st (fun _ q => XS.ifYes X.here C.1 rfl rfl (hb C.2.1 hd) rfl (XT.i0_ge_t hq) ho ht q) (k1 hq)
theorem ow_icmp_ge {x y : Int32} {o : Int} (C : OwC p Z s m meth c own nm bytes maxL ret) (X : Stand p l e R s m args below meth c T locs cells slots) (hd : decode bytes pc = .ok (.if_icmp .ge o, 3)) (ho : 0 ≤ (pc : Int) + o) (ht : ((pc : Int) + o).toNat = pcT) (hp : pc + 3 = pc') (k1 : ¬ x < y → OwF p e below D T (mkF m pcT Ls r)) (k2 : x < y → OwF p e below D T (mkF m pc' Ls r)) : OwF p e below D T (mkF m pc Ls (.int y :: .int x :: r)) := by
  subst hp
  by_cases hq : x < y
  · exact OwF.st (fun _ q => XS.icmpNo X.here C.1 rfl (hb C.2.1 hd) rfl (XT.ii_ge_f hq) q) (k2 hq)
  · exact OwF.st (fun _ q => XS.icmpYes X.here C.1 rfl rfl (hb C.2.1 hd) rfl (XT.ii_ge_t hq) ho ht q) (k1 hq)
theorem ow_lif_ge {x y : Int64} {o : Int} (C : OwC p Z s m meth c own nm bytes maxL ret) (X : Stand p l e R s m args below meth c T locs cells slots) (hd : decode bytes pc = .ok (.ifCond .ge o, 3)) (ho : 0 ≤ (pc : Int) + o) (ht : ((pc : Int) + o).toNat = pcT) (hp : pc + 3 = pc') (k1 : ¬ x < y → OwF p e below D T (mkF m pcT Ls r)) (k2 : x < y → OwF p e below D T (mkF m pc' Ls r)) : OwF p e below D T (mkF m pc Ls (.int (XT.cmpL x y) :: r)) := by
  subst hp
  by_cases hq : x < y
  · exact OwF.st (fun _ q => XS.ifNo X.here C.1 rfl (hb C.2.1 hd) rfl (XT.ll_ge_f hq) q) (k2 hq)
  · exact OwF.st (fun _ q => XS.ifYes X.here C.1 rfl rfl (hb C.2.1 hd) rfl (XT.ll_ge_t hq) ho ht q) (k1 hq)
theorem ow_if_gt {x : Int32} {o : Int} (C : OwC p Z s m meth c own nm bytes maxL ret) (X : Stand p l e R s m args below meth c T locs cells slots) (hd : decode bytes pc = .ok (.ifCond .gt o, 3)) (ho : 0 ≤ (pc : Int) + o) (ht : ((pc : Int) + o).toNat = pcT) (hp : pc + 3 = pc') (k1 : 0 < x → OwF p e below D T (mkF m pcT Ls r)) (k2 : ¬ 0 < x → OwF p e below D T (mkF m pc' Ls r)) : OwF p e below D T (mkF m pc Ls (.int x :: r)) := by
  subst hp
  by_cases hq : 0 < x
  · exact OwF.st (fun _ q => XS.ifYes X.here C.1 rfl rfl (hb C.2.1 hd) rfl (XT.i0_gt_t hq) ho ht q) (k1 hq)
  · exact OwF.st (fun _ q => XS.ifNo X.here C.1 rfl (hb C.2.1 hd) rfl (XT.i0_gt_f hq) q) (k2 hq)
theorem ow_icmp_gt {x y : Int32} {o : Int} (C : OwC p Z s m meth c own nm bytes maxL ret) (X : Stand p l e R s m args below meth c T locs cells slots) (hd : decode bytes pc = .ok (.if_icmp .gt o, 3)) (ho : 0 ≤ (pc : Int) + o) (ht : ((pc : Int) + o).toNat = pcT) (hp : pc + 3 = pc') (k1 : y < x → OwF p e below D T (mkF m pcT Ls r)) (k2 : ¬ y < x → OwF p e below D T (mkF m pc' Ls r)) : OwF p e below D T (mkF m pc Ls (.int y :: .int x :: r)) := by
  subst hp
  by_cases hq : y < x
  · exact OwF.st (fun _ q => XS.icmpYes X.here C.1 rfl rfl (hb C.2.1 hd) rfl (XT.ii_gt_t hq) ho ht q) (k1 hq)
  · exact OwF.st (fun _ q => XS.icmpNo X.here C.1 rfl (hb C.2.1 hd) rfl (XT.ii_gt_f hq) q) (k2 hq)
theorem ow_lif_gt {x y : Int64} {o : Int} (C : OwC p Z s m meth c own nm bytes maxL ret) (X : Stand p l e R s m args below meth c T locs cells slots) (hd : decode bytes pc = .ok (.ifCond .gt o, 3)) (ho : 0 ≤ (pc : Int) + o) (ht : ((pc : Int) + o).toNat = pcT) (hp : pc + 3 = pc') (k1 : y < x → OwF p e below D T (mkF m pcT Ls r)) (k2 : ¬ y < x → OwF p e below D T (mkF m pc' Ls r)) : OwF p e below D T (mkF m pc Ls (.int (XT.cmpL x y) :: r)) := by
  subst hp
  by_cases hq : y < x
  · exact OwF.st (fun _ q => XS.ifYes X.here C.1 rfl rfl (hb C.2.1 hd) rfl (XT.ll_gt_t hq) ho ht q) (k1 hq)
  · exact OwF.st (fun _ q => XS.ifNo X.here C.1 rfl (hb C.2.1 hd) rfl (XT.ll_gt_f hq) q) (k2 hq)
theorem ow_if_le {x : Int32} {o : Int} (C : OwC p Z s m meth c own nm bytes maxL ret) (X : Stand p l e R s m args below meth c T locs cells slots) (hd : decode bytes pc = .ok (.ifCond .le o, 3)) (ho : 0 ≤ (pc : Int) + o) (ht : ((pc : Int) + o).toNat = pcT) (hp : pc + 3 = pc') (k1 : ¬ 0 < x → OwF p e below D T (mkF m pcT Ls r)) (k2 : 0 < x → OwF p e below D T (mkF m pc' Ls r)) : OwF p e below D T (mkF m pc Ls (.int x :: r)) := by
  subst hp
  by_cases hq : 0 < x
  · exact OwF.st (fun _ q => XS.ifNo X.here C.1 rfl (hb C.2.1 hd) rfl (XT.i0_le_f hq) q) (k2 hq)
  · exact OwF.st (fun _ q => XS.ifYes X.here C.1 rfl rfl (hb C.2.1 hd) rfl (XT.i0_le_t hq) ho ht q) (k1 hq)
theorem ow_icmp_le {x y : Int32} {o : Int} (C : OwC p Z s m meth c own nm bytes maxL ret) (X : Stand p l e R s m args below meth c T locs cells slots) (hd : decode bytes pc = .ok (.if_icmp .le o, 3)) (ho : 0 ≤ (pc : Int) + o) (ht : ((pc : Int) + o).toNat = pcT) (hp : pc + 3 = pc') (k1 : ¬ y < x → OwF p e below D T (mkF m pcT Ls r)) (k2 : y < x → OwF p e below D T (mkF m pc' Ls r)) : OwF p e below D T (mkF m pc Ls (.int y :: .int x :: r)) := by
  subst hp
  by_cases hq : y < x
  · exact OwF.st (fun _ q => XS.icmpNo X.here C.1 rfl (hb C.2.1 hd) rfl (XT.ii_le_f hq) q) (k2 hq)
  · exact OwF.st (fun _ q => XS.icmpYes X.here C.1 rfl rfl (hb C.2.1 hd) rfl (XT.ii_le_t hq) ho ht q) (k1 hq)
theorem ow_lif_le {x y : Int64} {o : Int} (C : OwC p Z s m meth c own nm bytes maxL ret) (X : Stand p l e R s m args below meth c T locs cells slots) (hd : decode bytes pc = .ok (.ifCond .le o, 3)) (ho : 0 ≤ (pc : Int) + o) (ht : ((pc : Int) + o).toNat = pcT) (hp : pc + 3 = pc') (k1 : ¬ y < x → OwF p e below D T (mkF m pcT Ls r)) (k2 : y < x → OwF p e below D T (mkF m pc' Ls r)) : OwF p e below D T (mkF m pc Ls (.int (XT.cmpL x y) :: r)) := by
  subst hp
  by_cases hq : y < x
  · exact OwF.st (fun _ q => XS.ifNo X.here C.1 rfl (hb C.2.1 hd) rfl (XT.ll_le_f hq) q) (k2 hq)
  · exact OwF.st (fun _ q => XS.ifYes X.here C.1 rfl rfl (hb C.2.1 hd) rfl (XT.ll_le_t hq) ho ht q) (k1 hq)
end OwnSteps
section OwnObj
variable {p : Program} {l : Launch} {e : Env} {R : Room} {s : State} {m : MethodId} {args : Array Value} {below : List Frame} {meth : Method} {c : Code} {T : State} {locs : List Loc} {cells slots : Nat} {Z : State} {a0 : Array Value} {h : Heap}
variable {own nm : String} {bytes : ByteArray} {maxL : Nat} {ret : Option FieldType} {D : State → Outcome → Prop} {pc pc' pcT : Nat} {Ls Ls' : Array Slot} {r : List Value}
/-- what lies on a stack, in words -/
abbrev owCat (r : List Value) : Nat := (r.map fun v => v.category).sum
theorem ow_getF {O n d : String} {index : Nat} {a : Addr} {v : Value} (C : OwC p Z s m meth c own nm bytes maxL ret) (X : Stand p l e R s m args below meth c T locs cells slots) (eT : T.heap = h) (w : (Jvm.Cond.fieldLink own index O n d).before a0 Z = true) (F : Fld Z h a O n d v)
    (hd : decode bytes pc = .ok (.getfield index, 3)) (hp : pc + 3 = pc') (k : ∀ T', Stand p l e R s m args below meth c T' locs cells slots → T'.heap = h → OwF p e below D T' (mkF m pc' Ls (v :: r))) : OwF p e below D T (mkF m pc Ls (.ref a :: r)) := by
  subst hp
  obtain ⟨T', X', e', st⟩ := getF X C.1 C.2.2.2.2.2.2.2 C.2.2.2.1 (host := "") (Or.inl w) Via.refl eT F (g := mkF m pc Ls (.ref a :: r)) rfl rfl (hb C.2.1 hd)
  exact OwF.st st (k T' X' e')
theorem ow_putF {O n d K : String} {index kk : Nat} {ty : FieldType} {a : Addr} {v old : Value} (C : OwC p Z s m meth c own nm bytes maxL ret) (X : Stand p l e R s m args below meth c T locs cells slots) (eT : T.heap = h) (w : (Jvm.Cond.fieldLink own index O n d).before a0 Z = true) (F : Fld Z h a O n d old) (E : Exa Z h a K)
    (L : (Jvm.Cond.lays K O n d).before a0 Z = true ∨ ((Jvm.Cond.laysFinal K O n d).before a0 Z = true ∧ own = O ∧ nm = "<init>")) (wi : (Jvm.Cond.instantiable K kk).before a0 Z = true) (hty : parseFieldDescriptor d = some ty) (hn : narrow ty v = v) (hf : fits ty v = true)
    (hd : decode bytes pc = .ok (.putfield index, 3)) (hp : pc + 3 = pc')
    (k : ∀ T' h', Stand p l e R s m args below meth c T' (locs ++ [⟨a, Jvm.RoadKit.slotOf Z O n d⟩]) cells slots → T'.heap = h' → Wr h h' a (Jvm.RoadKit.slotOf Z O n d) v → OwF p e below D T' (mkF m pc' Ls r)) : OwF p e below D T (mkF m pc Ls (v :: .ref a :: r)) := by
  subst hp
  obtain ⟨T', h', X', e', W', st⟩ := putF X C.1 C.2.2.2.2.2.2.2 C.2.2.2.1 (host := "") (Or.inl w) Via.refl eT F E (L.imp id fun q => ⟨q.1, q.2.1, C.2.2.2.2.1.trans q.2.2⟩) wi hty hn hf (g := mkF m pc Ls (v :: .ref a :: r)) rfl rfl (hb C.2.1 hd)
  exact OwF.st st (k T' h' X' e' W')
theorem ow_getS {O n d : String} {index : Nat} {v : Value} (C : OwC p Z s m meth c own nm bytes maxL ret) (X : Stand p l e R s m args below meth c T locs cells slots) (eT : T.heap = h) (w : (Jvm.Cond.fieldLink own index O n d).before a0 Z = true) (F : Sta Z h O n d v)
    (hd : decode bytes pc = .ok (.getstatic index, 3)) (hp : pc + 3 = pc') (k : ∀ T', Stand p l e R s m args below meth c T' locs cells slots → T'.heap = h → OwF p e below D T' (mkF m pc' Ls (v :: r))) : OwF p e below D T (mkF m pc Ls r) := by
  subst hp
  obtain ⟨T', X', e', st⟩ := getS X C.1 C.2.2.2.2.2.2.2 C.2.2.2.1 (host := "") w Via.refl eT F (g := mkF m pc Ls r) rfl (hb C.2.1 hd)
  exact OwF.st st (k T' X' e')
theorem ow_new {K : String} {index n : Nat} (C : OwC p Z s m meth c own nm bytes maxL ret) (X : Stand p l e R s m args below meth c T locs cells slots) (eT : T.heap = h) (w : (Jvm.Cond.classLink own index K).before a0 Z = true) (wi : (Jvm.Cond.instantiable K n).before a0 Z = true) (wz : (Jvm.Cond.initialized K).before a0 Z = true)
    (hd : decode bytes pc = .ok (.new index, 3)) (hc : cells + 1 ≤ R.cells) (hl : slots + n ≤ R.slots) (hp : pc + 3 = pc')
    (k : ∀ T' h' a, a = h.size → Stand p l e R s m args below meth c T' locs (cells + 1) (slots + n) → T'.heap = h' → Ext h h' → Exa Z h' a K → (∀ {O nm d : String} {ty : FieldType}, Laid Z a0 K O nm d → parseFieldDescriptor d = some ty → Fld Z h' a O nm d (defaultValue ty)) → OwF p e below D T' (mkF m pc' Ls (.ref a :: r))) : OwF p e below D T (mkF m pc Ls r) := by
  subst hp
  obtain ⟨T', h', X', e', E', A', D', -, st⟩ := newO X C.1 C.2.2.2.2.2.2.2 C.2.2.2.1 w wi wz eT (g := mkF m pc Ls r) rfl (hb C.2.1 hd) hc hl
  exact OwF.st st (k T' h' _ rfl X' e' E' A' D')
theorem ow_initO {index : Nat} {a : Addr} (C : OwC p Z s m meth c own nm bytes maxL ret) (X : Stand p l e R s m args below meth c T locs cells slots) (eT : T.heap = h) (w1 : (Jvm.Cond.methodLink own index Lib.objectInit).before a0 Z = true) (w2 : (Jvm.Cond.instanceMethod Lib.objectInit).before a0 Z = true)
    (w3 : (Jvm.Cond.code Lib.objectInit ⟨#[0xb1]⟩ 1 none).before a0 Z = true) (hsz : Ls.size = maxL) (hd : decode bytes pc = .ok (.invokespecial index, 3)) (hf : 1 ≤ R.frames) (hl : owCat r + 12 ≤ R.locals) (hp : pc + 3 = pc')
    (k : ∀ T', Stand p l e R s m args below meth c T' locs cells slots → T'.heap = h → OwF p e below D T' (mkF m pc' Ls r)) : OwF p e below D T (mkF m pc Ls (.ref a :: r)) := by
  subst hp
  obtain ⟨T', X', e', st⟩ := initO X C.1 C.2.2.2.2.2.2.2 C.2.2.2.1 w1 w2 w3 eT (g := mkF m pc Ls (.ref a :: r)) rfl (by rw [C.2.2.1]; exact hsz) rfl (hb C.2.1 hd) hf (W := owCat r) (by show 2 * 0 + owCat r ≤ owCat r; omega) hl
  exact OwF.st st (k T' X' e')
/-- a static method by its contract -/
theorem ow_callS {index : Nat} {y : MethodName} {by' : ByteArray} {mx : Nat} {rt : Option FieldType} {rm : Room} {Q : Option Value → Heap → List Loc → Prop} {stk argsL rest : List Value} {ps : List FieldType} {pr : Option FieldType}
    (C : OwC p Z s m meth c own nm bytes maxL ret) (X : Stand p l e R s m args below meth c T locs cells slots) (eT : T.heap = h)
    (w1 : (Jvm.Cond.methodLink own index y).before a0 Z = true) (w2 : (Jvm.Cond.static y).before a0 Z = true) (w3 : (Jvm.Cond.initialized y.cls).before a0 Z = true) (w4 : (Jvm.Cond.code y by' mx rt).before a0 Z = true) (hy : y.cls ≠ "java/lang/invoke/MethodHandle" ∧ y.cls ≠ "java/lang/invoke/VarHandle")
    (M : OwCon l y by' mx rt rm Z argsL.toArray h Q) (hds : parseMethodDescriptor y.desc = some ⟨ps, pr⟩) (hln : argsL.length = ps.length) (hst : stk = argsL.reverse ++ rest) (hsz : Ls.size = maxL)
    (hd : decode bytes pc = .ok (.invokestatic index, 3)) (hfr : rm.frames + 1 ≤ R.frames) (hlo : owCat rest + (mx + 11) + rm.locals ≤ R.locals) (hcl : cells + rm.cells ≤ R.cells) (hsl : slots + rm.slots ≤ R.slots) (hp : pc + 3 = pc')
    (k : ∀ T' v L, Stand p l e R s m args below meth c T' (locs ++ L) (cells + rm.cells) (slots + rm.slots) → Q v T'.heap L → OwF p e below D T' (mkF m pc' Ls (v.toList ++ rest))) : OwF p e below D T (mkF m pc Ls stk) := by
  subst hp; subst hst
  have hZ := C.2.2.2.2.2.2.2
  obtain ⟨v, _, ⟨T', L', k', n'⟩, -, X', ⟨Lc, hQ, l', y', z'⟩, st⟩ := Jvm.LawKit.callS X C.1 (y := y) C.2.2.2.1 (mvT hZ w1) (mvT hZ w2) (mvT hZ w3) (mvT hZ w4) hy (backOf (W := owCat rest) (M []) hZ w4 w3 hfr hlo) (g := mkF m pc Ls (argsL.reverse ++ rest)) rfl (by rw [C.2.2.1]; exact hsz) (argsL := argsL) (rest := rest) (lenOf hds hln) rfl (by show 2 * 0 + owCat rest ≤ owCat rest; omega) (hb C.2.1 hd) (fun _ _ => ⟨rfl, eT, hcl, hsl⟩)
  dsimp only [Pt.U, Pt.locs, Pt.cells, Pt.slots] at X' l' y' z' st hQ
  subst l' y' z'
  exact OwF.st st (k T' v Lc X' hQ)
/-- a constructor by its contract -/
theorem ow_callN {index : Nat} {y : MethodName} {by' : ByteArray} {mx : Nat} {rm : Room} {Q : Option Value → Heap → List Loc → Prop} {stk argsL rest : List Value} {ps : List FieldType} {pr : Option FieldType} {a : Addr}
    (C : OwC p Z s m meth c own nm bytes maxL ret) (X : Stand p l e R s m args below meth c T locs cells slots) (eT : T.heap = h) (hni : y.name = "<init>")
    (w1 : (Jvm.Cond.methodLink own index y).before a0 Z = true) (w2 : (Jvm.Cond.instanceMethod y).before a0 Z = true) (w3 : (Jvm.Cond.initialized y.cls).before a0 Z = true) (w4 : (Jvm.Cond.code y by' mx none).before a0 Z = true) (hy : y.cls ≠ "java/lang/invoke/MethodHandle" ∧ y.cls ≠ "java/lang/invoke/VarHandle")
    (M : OwCon l y by' mx none rm Z (.ref a :: argsL).toArray h Q) (hds : parseMethodDescriptor y.desc = some ⟨ps, pr⟩) (hln : argsL.length = ps.length) (hst : stk = argsL.reverse ++ .ref a :: rest) (hsz : Ls.size = maxL)
    (hd : decode bytes pc = .ok (.invokespecial index, 3)) (hfr : rm.frames + 1 ≤ R.frames) (hlo : owCat rest + (mx + 11) + rm.locals ≤ R.locals) (hcl : cells + rm.cells ≤ R.cells) (hsl : slots + rm.slots ≤ R.slots) (hp : pc + 3 = pc')
    (k : ∀ T' v L, Stand p l e R s m args below meth c T' (locs ++ L) (cells + rm.cells) (slots + rm.slots) → Q v T'.heap L → OwF p e below D T' (mkF m pc' Ls (v.toList ++ rest))) : OwF p e below D T (mkF m pc Ls stk) := by
  subst hp; subst hst
  have hZ := C.2.2.2.2.2.2.2
  obtain ⟨v, _, ⟨T', L', k', n'⟩, -, X', ⟨Lc, hQ, l', y', z'⟩, st⟩ := X.specialBack C.1 (y := y) hni C.2.2.2.1 (mvT hZ w1) (mvT hZ w2) (mvT hZ w4) hy (backOf (W := owCat rest) (M []) hZ w4 w3 hfr hlo) (g := mkF m pc Ls (argsL.reverse ++ .ref a :: rest)) rfl (by rw [C.2.2.1]; exact hsz) (Steps.refl _) (a := a) (argsL := argsL) (rest := rest) (lenOf hds hln) rfl (by show 2 * 0 + owCat rest ≤ owCat rest; omega) (hb C.2.1 hd) (fun _ _ => ⟨rfl, eT, hcl, hsl⟩)
  dsimp only [Pt.U, Pt.locs, Pt.cells, Pt.slots] at X' l' y' z' st hQ
  subst l' y' z'
  exact OwF.st (fun _ q => st.trans q) (k T' v Lc X' hQ)
/-- an instance method by its contract -/
theorem ow_callV {K : String} {index : Nat} {y : MethodName} {by' : ByteArray} {mx : Nat} {rt : Option FieldType} {rm : Room} {Q : Option Value → Heap → List Loc → Prop} {stk argsL rest : List Value} {ps : List FieldType} {pr : Option FieldType} {a : Addr}
    (C : OwC p Z s m meth c own nm bytes maxL ret) (X : Stand p l e R s m args below meth c T locs cells slots) (eT : T.heap = h)
    (w1 : (Jvm.Cond.methodLink own index y).before a0 Z = true) (w2 : (Jvm.Cond.declares y).before a0 Z = true) (w5 : (Jvm.Cond.selects K y y).before a0 Z = true) (hK : K = y.cls) (w6 : (Jvm.Cond.instanceMethod y).before a0 Z = true) (w3 : (Jvm.Cond.initialized y.cls).before a0 Z = true) (w4 : (Jvm.Cond.code y by' mx rt).before a0 Z = true)
    (hy : y.cls ≠ "java/lang/invoke/MethodHandle" ∧ y.cls ≠ "java/lang/invoke/VarHandle") (E : Exa Z h a K)
    (M : OwCon l y by' mx rt rm Z (.ref a :: argsL).toArray h Q) (hds : parseMethodDescriptor y.desc = some ⟨ps, pr⟩) (hln : argsL.length = ps.length) (hst : stk = argsL.reverse ++ .ref a :: rest) (hsz : Ls.size = maxL)
    (hd : decode bytes pc = .ok (.invokevirtual index, 3)) (hfr : rm.frames + 1 ≤ R.frames) (hlo : owCat rest + (mx + 11) + rm.locals ≤ R.locals) (hcl : cells + rm.cells ≤ R.cells) (hsl : slots + rm.slots ≤ R.slots) (hp : pc + 3 = pc')
    (k : ∀ T' v L, Stand p l e R s m args below meth c T' (locs ++ L) (cells + rm.cells) (slots + rm.slots) → Q v T'.heap L → OwF p e below D T' (mkF m pc' Ls (v.toList ++ rest))) : OwF p e below D T (mkF m pc Ls stk) := by
  subst hp; subst hst; subst hK
  have hZ := C.2.2.2.2.2.2.2
  obtain ⟨cq, kq, q1, q2, q3⟩ := isOf hZ eT E
  obtain ⟨v, _, ⟨T', L', k', n'⟩, -, X', ⟨Lc, hQ, l', y', z'⟩, st⟩ := X.virtualBack C.1 (y := y) (z := y) C.2.2.2.1 (mvT hZ w1) (mvT hZ w2) (notFace_of_selects (args := #[]) (mvT hZ w5)) (mvT hZ w5) (mvT hZ w6) hy (backOf (W := owCat rest) (M []) hZ w4 w3 hfr hlo) q1 q3 (g := mkF m pc Ls (argsL.reverse ++ .ref a :: rest)) rfl (by rw [C.2.2.1]; exact hsz) (Steps.refl _) (argsL := argsL) (rest := rest) (lenOf hds hln) rfl (by show 2 * 0 + owCat rest ≤ owCat rest; omega) (hb C.2.1 hd) (fun _ _ => ⟨rfl, eT, hcl, hsl⟩)
  dsimp only [Pt.U, Pt.locs, Pt.cells, Pt.slots] at X' l' y' z' st hQ
  subst l' y' z'
  exact OwF.st (fun _ q => st.trans q) (k T' v Lc X' hQ)
/-- a pure answer: the value, nothing written, the heap as it was -/
abbrev OwP (v : Option Value) (h : Heap) (v' : Option Value) (h' : Heap) (L : List Loc) : Prop := v' = v ∧ L = [] ∧ h' = h
/-- a pure static method -/
theorem ow_callSP {index : Nat} {y : MethodName} {by' : ByteArray} {mx : Nat} {rt : Option FieldType} {rm : Room} {v : Value} {stk argsL rest : List Value} {ps : List FieldType} {pr : Option FieldType}
    (C : OwC p Z s m meth c own nm bytes maxL ret) (X : Stand p l e R s m args below meth c T locs cells slots) (eT : T.heap = h)
    (w1 : (Jvm.Cond.methodLink own index y).before a0 Z = true) (w2 : (Jvm.Cond.static y).before a0 Z = true) (w3 : (Jvm.Cond.initialized y.cls).before a0 Z = true) (w4 : (Jvm.Cond.code y by' mx rt).before a0 Z = true) (hy : y.cls ≠ "java/lang/invoke/MethodHandle" ∧ y.cls ≠ "java/lang/invoke/VarHandle")
    (M : OwCon l y by' mx rt rm Z argsL.toArray h (OwP (some v) h)) (hrm : rm.cells = 0 ∧ rm.slots = 0) (hds : parseMethodDescriptor y.desc = some ⟨ps, pr⟩) (hln : argsL.length = ps.length) (hst : stk = argsL.reverse ++ rest) (hsz : Ls.size = maxL)
    (hd : decode bytes pc = .ok (.invokestatic index, 3)) (hfr : rm.frames + 1 ≤ R.frames) (hlo : owCat rest + (mx + 11) + rm.locals ≤ R.locals) (hcl : cells ≤ R.cells) (hsl : slots ≤ R.slots) (hp : pc + 3 = pc')
    (k : ∀ T', Stand p l e R s m args below meth c T' locs cells slots → T'.heap = h → OwF p e below D T' (mkF m pc' Ls (v :: rest))) : OwF p e below D T (mkF m pc Ls stk) := by
  refine ow_callS C X eT w1 w2 w3 w4 hy M hds hln hst hsz hd hfr hlo (by rw [hrm.1]; exact hcl) (by rw [hrm.2]; exact hsl) hp fun T' v' L' X' hQ => ?_
  obtain ⟨rfl, rfl, hh⟩ := hQ
  rw [hrm.1, hrm.2, List.append_nil] at X'
  exact k T' X' hh
/-- a pure instance method -/
theorem ow_callVP {K : String} {index : Nat} {y : MethodName} {by' : ByteArray} {mx : Nat} {rt : Option FieldType} {rm : Room} {v : Value} {stk argsL rest : List Value} {ps : List FieldType} {pr : Option FieldType} {a : Addr}
    (C : OwC p Z s m meth c own nm bytes maxL ret) (X : Stand p l e R s m args below meth c T locs cells slots) (eT : T.heap = h)
    (w1 : (Jvm.Cond.methodLink own index y).before a0 Z = true) (w2 : (Jvm.Cond.declares y).before a0 Z = true) (w5 : (Jvm.Cond.selects K y y).before a0 Z = true) (hK : K = y.cls) (w6 : (Jvm.Cond.instanceMethod y).before a0 Z = true) (w3 : (Jvm.Cond.initialized y.cls).before a0 Z = true) (w4 : (Jvm.Cond.code y by' mx rt).before a0 Z = true)
    (hy : y.cls ≠ "java/lang/invoke/MethodHandle" ∧ y.cls ≠ "java/lang/invoke/VarHandle") (E : Exa Z h a K)
    (M : OwCon l y by' mx rt rm Z (.ref a :: argsL).toArray h (OwP (some v) h)) (hrm : rm.cells = 0 ∧ rm.slots = 0) (hds : parseMethodDescriptor y.desc = some ⟨ps, pr⟩) (hln : argsL.length = ps.length) (hst : stk = argsL.reverse ++ .ref a :: rest) (hsz : Ls.size = maxL)
    (hd : decode bytes pc = .ok (.invokevirtual index, 3)) (hfr : rm.frames + 1 ≤ R.frames) (hlo : owCat rest + (mx + 11) + rm.locals ≤ R.locals) (hcl : cells ≤ R.cells) (hsl : slots ≤ R.slots) (hp : pc + 3 = pc')
    (k : ∀ T', Stand p l e R s m args below meth c T' locs cells slots → T'.heap = h → OwF p e below D T' (mkF m pc' Ls (v :: rest))) : OwF p e below D T (mkF m pc Ls stk) := by
  refine ow_callV C X eT w1 w2 w5 hK w6 w3 w4 hy E M hds hln hst hsz hd hfr hlo (by rw [hrm.1]; exact hcl) (by rw [hrm.2]; exact hsl) hp fun T' v' L' X' hQ => ?_
  obtain ⟨rfl, rfl, hh⟩ := hQ
  rw [hrm.1, hrm.2, List.append_nil] at X'
  exact k T' X' hh
/-- a constructor that leaves all as it is -/
theorem ow_callNP {index : Nat} {y : MethodName} {by' : ByteArray} {mx : Nat} {rm : Room} {stk argsL rest : List Value} {ps : List FieldType} {pr : Option FieldType} {a : Addr}
    (C : OwC p Z s m meth c own nm bytes maxL ret) (X : Stand p l e R s m args below meth c T locs cells slots) (eT : T.heap = h) (hni : y.name = "<init>")
    (w1 : (Jvm.Cond.methodLink own index y).before a0 Z = true) (w2 : (Jvm.Cond.instanceMethod y).before a0 Z = true) (w3 : (Jvm.Cond.initialized y.cls).before a0 Z = true) (w4 : (Jvm.Cond.code y by' mx none).before a0 Z = true) (hy : y.cls ≠ "java/lang/invoke/MethodHandle" ∧ y.cls ≠ "java/lang/invoke/VarHandle")
    (M : OwCon l y by' mx none rm Z (.ref a :: argsL).toArray h (OwP none h)) (hrm : rm.cells = 0 ∧ rm.slots = 0) (hds : parseMethodDescriptor y.desc = some ⟨ps, pr⟩) (hln : argsL.length = ps.length) (hst : stk = argsL.reverse ++ .ref a :: rest) (hsz : Ls.size = maxL)
    (hd : decode bytes pc = .ok (.invokespecial index, 3)) (hfr : rm.frames + 1 ≤ R.frames) (hlo : owCat rest + (mx + 11) + rm.locals ≤ R.locals) (hcl : cells ≤ R.cells) (hsl : slots ≤ R.slots) (hp : pc + 3 = pc')
    (k : ∀ T', Stand p l e R s m args below meth c T' locs cells slots → T'.heap = h → OwF p e below D T' (mkF m pc' Ls rest)) : OwF p e below D T (mkF m pc Ls stk) := by
  refine ow_callN C X eT hni w1 w2 w3 w4 hy M hds hln hst hsz hd hfr hlo (by rw [hrm.1]; exact hcl) (by rw [hrm.2]; exact hsl) hp fun T' v' L' X' hQ => ?_
  obtain ⟨rfl, rfl, hh⟩ := hQ
  rw [hrm.1, hrm.2, List.append_nil] at X'
  exact k T' X' hh
end OwnObj
section OwnArr
variable {p : Program} {l : Launch} {e : Env} {R : Room} {s : State} {m : MethodId} {args : Array Value} {below : List Frame} {meth : Method} {c : Code} {T : State} {locs : List Loc} {cells slots : Nat} {Z : State} {a0 : Array Value} {h h' : Heap}
variable {own nm : String} {bytes : ByteArray} {maxL : Nat} {ret : Option FieldType} {D : State → Outcome → Prop} {pc pc' pcT : Nat} {Ls Ls' : Array Slot} {r : List Value}
variable {a b : Addr} {ty : FieldType} {n i : Nat} {f g : Nat → Value} {v : Value} {sl : Nat} {ws : List Addr} {K : String} {kk : Nat}
/-- an array of n places, place j holds f j -/
def OwA (Z : State) (h : Heap) (a : Addr) (ty : FieldType) (n : Nat) (f : Nat → Value) : Prop := ∃ c : Cell, Arr Z h a c ty ∧ c.slots.size = n ∧ ∀ j, j < n → c.slots[j]? = some (f j)
theorem OwA.lt (A : OwA Z h a ty n f) : a < h.size := by obtain ⟨c, A, -⟩ := A; exact A.lt
theorem OwA.ext (A : OwA Z h a ty n f) (E : Ext h h') : OwA Z h' a ty n f := by obtain ⟨c, A, r⟩ := A; exact ⟨c, A.ext E, r⟩
theorem OwA.other (A : OwA Z h b ty n f) (W : Wr h h' a sl v) (q : b ≠ a) : OwA Z h' b ty n f := by obtain ⟨c, A, r⟩ := A; exact ⟨c, A.other W q, r⟩
theorem OwA.keep (A : OwA Z h a ty n f) (K : Keep h h' ws) (q : a ∉ ws) : OwA Z h' a ty n f := by obtain ⟨c, A, r⟩ := A; exact ⟨c, ⟨K.2.1 a c A.1 q, A.2⟩, r⟩
theorem OwA.congr (A : OwA Z h a ty n f) (q : ∀ j, j < n → f j = g j) : OwA Z h a ty n g := by obtain ⟨c, A, S, H⟩ := A; exact ⟨c, A, S, fun j hj => by rw [← q j hj]; exact H j hj⟩
theorem OwA.set (A : OwA Z h a ty n f) (W : Wr h h' a i v) : OwA Z h' a ty n (fun j => if j = i then v else f j) := by
  obtain ⟨c, A, S, H⟩ := A
  refine ⟨c.setSlot i v, A.same W, by rw [sz_set]; exact S, fun j hj => ?_⟩
  show (c.slots.setIfInBounds i v)[j]? = some (if j = i then v else f j)
  by_cases q : j = i
  · subst q
    rw [if_pos rfl, Array.getElem?_setIfInBounds_self_of_lt (by omega)]
  · rw [if_neg q, Array.getElem?_setIfInBounds_ne (fun w => q w.symm)]; exact H j hj
theorem OwA.new {k : ClassId} {z : Int32} (A : Arr Z h a (newA k ty z) ty) : OwA Z h a ty z.toNatClampNeg (fun _ => defaultValue ty) := by
  refine ⟨_, A, sz_new _ _ _, fun j hj => ?_⟩
  show (Array.replicate z.toNatClampNeg (defaultValue ty))[j]? = _
  rw [Array.getElem?_replicate, if_pos hj]
theorem OwA.ne (A : OwA Z h b ty n f) (E : Exa Z h a K) (wi : (Jvm.Cond.instantiable K kk).before a0 Z = true) : a ≠ b := by obtain ⟨c, A, -⟩ := A; exact ne_arr E wi A
theorem ow_newarr {aty : ArrayType} {z : Int32} {N cap : Nat} (C : OwC p Z s m meth c own nm bytes maxL ret) (X : Stand p l e R s m args below meth c T locs cells slots) (eT : T.heap = h) (w : (Jvm.Cond.arrayClass (newarray.typeOf aty)).before a0 Z = true) (hd : decode bytes pc = .ok (.newarray aty, 2))
    (hn : ¬ z < 0) (hN : z.toNatClampNeg = N) (hcap : N ≤ cap) (hb8 : cap * 8 ≤ 536870912) (hc : cells + 1 ≤ R.cells) (hl : slots + cap ≤ R.slots) (hp : pc + 2 = pc')
    (k : ∀ T' h' a, a = h.size → Stand p l e R s m args below meth c T' locs (cells + 1) (slots + cap) → T'.heap = h' → Ext h h' → OwA Z h' a (newarray.typeOf aty) N (fun _ => defaultValue (newarray.typeOf aty)) → OwF p e below D T' (mkF m pc' Ls (.ref a :: r))) : OwF p e below D T (mkF m pc Ls (.int z :: r)) := by
  subst hp; subst hN
  obtain ⟨T', h', cA, X', e', E', A', st⟩ := newP X C.1 C.2.2.2.2.2.2.2 w eT (g := mkF m pc Ls (.int z :: r)) rfl (hb C.2.1 hd) rfl hn hcap hb8 hc hl
  exact OwF.st st (k T' h' _ rfl X' e' E' (OwA.new A'))
theorem ow_arraylength {z : Int32} (C : OwC p Z s m meth c own nm bytes maxL ret) (X : Stand p l e R s m args below meth c T locs cells slots) (eT : T.heap = h) (A : OwA Z h a ty n f) (hz : n.toInt32 = z) (hd : decode bytes pc = .ok (.arraylength, 1)) (hp : pc + 1 = pc')
    (k : OwF p e below D T (mkF m pc' Ls (.int z :: r))) : OwF p e below D T (mkF m pc Ls (.ref a :: r)) := by
  subst hp; subst hz
  obtain ⟨cl, A, S, -⟩ := A
  subst S
  exact OwF.st (fun t q => X.arraylength C.1 (by rw [eT]; exact A.1) (State.isArrayOf_alike C.2.2.2.2.2.2.2.alike A.2.1) (g := mkF m pc Ls (.ref a :: r)) rfl rfl (hb C.2.1 hd) t q) k
theorem ow_iaload {z : Int32} (C : OwC p Z s m meth c own nm bytes maxL ret) (X : Stand p l e R s m args below meth c T locs cells slots) (eT : T.heap = h) (A : OwA Z h a .int n f) (h0 : ¬ z < 0) (hj : z.toNatClampNeg = i) (hlt : i < n) (hv : f i = v) (hd : decode bytes pc = .ok (.iaload, 1)) (hp : pc + 1 = pc')
    (k : OwF p e below D T (mkF m pc' Ls (v :: r))) : OwF p e below D T (mkF m pc Ls (.int z :: .ref a :: r)) := by
  subst hp; subst hj; subst hv
  obtain ⟨cl, A, S, H⟩ := A
  exact OwF.st (fun t q => X.iaload C.1 (by rw [eT]; exact A.1) (State.isArrayOf_alike C.2.2.2.2.2.2.2.alike A.2.1) A.2.2 (fun w => w.elim h0 (fun w => by omega)) (H _ hlt) (g := mkF m pc Ls (.int z :: .ref a :: r)) rfl rfl (hb C.2.1 hd) t q) k
theorem ow_laload {z : Int32} (C : OwC p Z s m meth c own nm bytes maxL ret) (X : Stand p l e R s m args below meth c T locs cells slots) (eT : T.heap = h) (A : OwA Z h a .long n f) (h0 : ¬ z < 0) (hj : z.toNatClampNeg = i) (hlt : i < n) (hv : f i = v) (hd : decode bytes pc = .ok (.laload, 1)) (hp : pc + 1 = pc')
    (k : OwF p e below D T (mkF m pc' Ls (v :: r))) : OwF p e below D T (mkF m pc Ls (.int z :: .ref a :: r)) := by
  subst hp; subst hj; subst hv
  obtain ⟨cl, A, S, H⟩ := A
  exact OwF.st (fun t q => X.laload C.1 (by rw [eT]; exact A.1) (State.isArrayOf_alike C.2.2.2.2.2.2.2.alike A.2.1) A.2.2 (fun w => w.elim h0 (fun w => by omega)) (H _ hlt) (g := mkF m pc Ls (.int z :: .ref a :: r)) rfl rfl (hb C.2.1 hd) t q) k
theorem ow_caload {z : Int32} (C : OwC p Z s m meth c own nm bytes maxL ret) (X : Stand p l e R s m args below meth c T locs cells slots) (eT : T.heap = h) (A : OwA Z h a .char n f) (h0 : ¬ z < 0) (hj : z.toNatClampNeg = i) (hlt : i < n) (hv : f i = v) (hd : decode bytes pc = .ok (.caload, 1)) (hp : pc + 1 = pc')
    (k : OwF p e below D T (mkF m pc' Ls (v :: r))) : OwF p e below D T (mkF m pc Ls (.int z :: .ref a :: r)) := by
  subst hp; subst hj; subst hv
  obtain ⟨cl, A, S, H⟩ := A
  exact OwF.st (fun t q => X.caload C.1 (by rw [eT]; exact A.1) (State.isArrayOf_alike C.2.2.2.2.2.2.2.alike A.2.1) A.2.2 (fun w => w.elim h0 (fun w => by omega)) (H _ hlt) (g := mkF m pc Ls (.int z :: .ref a :: r)) rfl rfl (hb C.2.1 hd) t q) k
theorem ow_saload {z : Int32} (C : OwC p Z s m meth c own nm bytes maxL ret) (X : Stand p l e R s m args below meth c T locs cells slots) (eT : T.heap = h) (A : OwA Z h a .short n f) (h0 : ¬ z < 0) (hj : z.toNatClampNeg = i) (hlt : i < n) (hv : f i = v) (hd : decode bytes pc = .ok (.saload, 1)) (hp : pc + 1 = pc')
    (k : OwF p e below D T (mkF m pc' Ls (v :: r))) : OwF p e below D T (mkF m pc Ls (.int z :: .ref a :: r)) := by
  subst hp; subst hj; subst hv
  obtain ⟨cl, A, S, H⟩ := A
  exact OwF.st (fun t q => X.saload C.1 (by rw [eT]; exact A.1) (State.isArrayOf_alike C.2.2.2.2.2.2.2.alike A.2.1) A.2.2 (fun w => w.elim h0 (fun w => by omega)) (H _ hlt) (g := mkF m pc Ls (.int z :: .ref a :: r)) rfl rfl (hb C.2.1 hd) t q) k
theorem ow_aaload {z : Int32} (C : OwC p Z s m meth c own nm bytes maxL ret) (X : Stand p l e R s m args below meth c T locs cells slots) (eT : T.heap = h) (A : OwA Z h a ty n f) (hty : ty.isReference = true) (h0 : ¬ z < 0) (hj : z.toNatClampNeg = i) (hlt : i < n) (hv : f i = v) (hd : decode bytes pc = .ok (.aaload, 1)) (hp : pc + 1 = pc')
    (k : OwF p e below D T (mkF m pc' Ls (v :: r))) : OwF p e below D T (mkF m pc Ls (.int z :: .ref a :: r)) := by
  subst hp; subst hj; subst hv
  obtain ⟨cl, A, S, H⟩ := A
  exact OwF.st (fun t q => X.aaload C.1 (by rw [eT]; exact A.1) (State.isArrayOf_alike C.2.2.2.2.2.2.2.alike A.2.1) hty A.2.2 (fun w => w.elim h0 (fun w => by omega)) (H _ hlt) (g := mkF m pc Ls (.int z :: .ref a :: r)) rfl rfl (hb C.2.1 hd) t q) k
theorem ow_baload {z : Int32} (C : OwC p Z s m meth c own nm bytes maxL ret) (X : Stand p l e R s m args below meth c T locs cells slots) (eT : T.heap = h) (A : OwA Z h a .byte n f) (h0 : ¬ z < 0) (hj : z.toNatClampNeg = i) (hlt : i < n) (hv : f i = v) (hd : decode bytes pc = .ok (.baload, 1)) (hp : pc + 1 = pc')
    (k : OwF p e below D T (mkF m pc' Ls (v :: r))) : OwF p e below D T (mkF m pc Ls (.int z :: .ref a :: r)) := by
  subst hp; subst hj; subst hv
  obtain ⟨cl, A, S, H⟩ := A
  exact OwF.st (fun t q => X.baloadBytes C.1 (by rw [eT]; exact A.1) (State.isArrayOf_alike C.2.2.2.2.2.2.2.alike A.2.1) A.2.2 (fun w => w.elim h0 (fun w => by omega)) (H _ hlt) (g := mkF m pc Ls (.int z :: .ref a :: r)) rfl rfl (hb C.2.1 hd) t q) k
theorem ow_iastore {z : Int32} {x : Int32} (C : OwC p Z s m meth c own nm bytes maxL ret) (X : Stand p l e R s m args below meth c T locs cells slots) (eT : T.heap = h) (A : OwA Z h a .int n f) (h0 : ¬ z < 0) (hj : z.toNatClampNeg = i) (hlt : i < n) (hd : decode bytes pc = .ok (.iastore, 1)) (hp : pc + 1 = pc')
    (k : ∀ T' h', Stand p l e R s m args below meth c T' (locs ++ [⟨a, i⟩]) cells slots → T'.heap = h' → Wr h h' a i (.int x) → OwF p e below D T' (mkF m pc' Ls r)) : OwF p e below D T (mkF m pc Ls (.int x :: .int z :: .ref a :: r)) := by
  subst hp; subst hj
  obtain ⟨cl, A, S, H⟩ := A
  obtain ⟨T', h', X', e', W', st⟩ := stI X C.1 C.2.2.2.2.2.2.2 eT A (j := z) (x := x) (fun w => w.elim h0 (fun w => by omega)) (g := mkF m pc Ls (.int x :: .int z :: .ref a :: r)) rfl rfl (hb C.2.1 hd)
  exact OwF.st st (k T' h' X' e' W')
theorem ow_lastore {z : Int32} {x : Int64} (C : OwC p Z s m meth c own nm bytes maxL ret) (X : Stand p l e R s m args below meth c T locs cells slots) (eT : T.heap = h) (A : OwA Z h a .long n f) (h0 : ¬ z < 0) (hj : z.toNatClampNeg = i) (hlt : i < n) (hd : decode bytes pc = .ok (.lastore, 1)) (hp : pc + 1 = pc')
    (k : ∀ T' h', Stand p l e R s m args below meth c T' (locs ++ [⟨a, i⟩]) cells slots → T'.heap = h' → Wr h h' a i (.long x) → OwF p e below D T' (mkF m pc' Ls r)) : OwF p e below D T (mkF m pc Ls (.long x :: .int z :: .ref a :: r)) := by
  subst hp; subst hj
  obtain ⟨cl, A, S, H⟩ := A
  obtain ⟨T', h', X', e', W', st⟩ := stJ X C.1 C.2.2.2.2.2.2.2 eT A (j := z) (x := x) (fun w => w.elim h0 (fun w => by omega)) (g := mkF m pc Ls (.long x :: .int z :: .ref a :: r)) rfl rfl (hb C.2.1 hd)
  exact OwF.st st (k T' h' X' e' W')
theorem ow_castore {z : Int32} {x : Int32} (C : OwC p Z s m meth c own nm bytes maxL ret) (X : Stand p l e R s m args below meth c T locs cells slots) (eT : T.heap = h) (A : OwA Z h a .char n f) (h0 : ¬ z < 0) (hj : z.toNatClampNeg = i) (hlt : i < n) (hd : decode bytes pc = .ok (.castore, 1)) (hp : pc + 1 = pc')
    (k : ∀ T' h', Stand p l e R s m args below meth c T' (locs ++ [⟨a, i⟩]) cells slots → T'.heap = h' → Wr h h' a i (.int (nar .char x)) → OwF p e below D T' (mkF m pc' Ls r)) : OwF p e below D T (mkF m pc Ls (.int x :: .int z :: .ref a :: r)) := by
  subst hp; subst hj
  obtain ⟨cl, A, S, H⟩ := A
  obtain ⟨T', h', X', e', W', st⟩ := stC X C.1 C.2.2.2.2.2.2.2 eT A (j := z) (x := x) (fun w => w.elim h0 (fun w => by omega)) (g := mkF m pc Ls (.int x :: .int z :: .ref a :: r)) rfl rfl (hb C.2.1 hd)
  exact OwF.st st (k T' h' X' e' W')
theorem ow_sastore {z : Int32} {x : Int32} (C : OwC p Z s m meth c own nm bytes maxL ret) (X : Stand p l e R s m args below meth c T locs cells slots) (eT : T.heap = h) (A : OwA Z h a .short n f) (h0 : ¬ z < 0) (hj : z.toNatClampNeg = i) (hlt : i < n) (hd : decode bytes pc = .ok (.sastore, 1)) (hp : pc + 1 = pc')
    (k : ∀ T' h', Stand p l e R s m args below meth c T' (locs ++ [⟨a, i⟩]) cells slots → T'.heap = h' → Wr h h' a i (.int (nar .short x)) → OwF p e below D T' (mkF m pc' Ls r)) : OwF p e below D T (mkF m pc Ls (.int x :: .int z :: .ref a :: r)) := by
  subst hp; subst hj
  obtain ⟨cl, A, S, H⟩ := A
  obtain ⟨T', h', X', e', W', st⟩ := stS X C.1 C.2.2.2.2.2.2.2 eT A (j := z) (x := x) (fun w => w.elim h0 (fun w => by omega)) (g := mkF m pc Ls (.int x :: .int z :: .ref a :: r)) rfl rfl (hb C.2.1 hd)
  exact OwF.st st (k T' h' X' e' W')
theorem ow_bastore {z : Int32} {x : Int32} (C : OwC p Z s m meth c own nm bytes maxL ret) (X : Stand p l e R s m args below meth c T locs cells slots) (eT : T.heap = h) (A : OwA Z h a .byte n f) (h0 : ¬ z < 0) (hj : z.toNatClampNeg = i) (hlt : i < n) (hd : decode bytes pc = .ok (.bastore, 1)) (hp : pc + 1 = pc')
    (k : ∀ T' h', Stand p l e R s m args below meth c T' (locs ++ [⟨a, i⟩]) cells slots → T'.heap = h' → Wr h h' a i (.int (nar .byte x)) → OwF p e below D T' (mkF m pc' Ls r)) : OwF p e below D T (mkF m pc Ls (.int x :: .int z :: .ref a :: r)) := by
  subst hp; subst hj
  obtain ⟨cl, A, S, H⟩ := A
  obtain ⟨T', h', X', e', W', st⟩ := stB X C.1 C.2.2.2.2.2.2.2 eT A (j := z) (x := x) (fun w => w.elim h0 (fun w => by omega)) (g := mkF m pc Ls (.int x :: .int z :: .ref a :: r)) rfl rfl (hb C.2.1 hd)
  exact OwF.st st (k T' h' X' e' W')
end OwnArr
section OwnRef
variable {p : Program} {l : Launch} {e : Env} {R : Room} {s : State} {m : MethodId} {args : Array Value} {below : List Frame} {meth : Method} {c : Code} {T : State} {locs : List Loc} {cells slots : Nat} {Z : State} {a0 : Array Value} {h h' : Heap}
variable {own nm : String} {bytes : ByteArray} {maxL : Nat} {ret : Option FieldType} {D : State → Outcome → Prop} {pc pc' pcT : Nat} {Ls Ls' : Array Slot} {r : List Value} {a : Addr} {K K2 : String} {index n : Nat} {v : Value} {t : FieldType}
theorem ow_retA {Q : Option Value → Heap → List Loc → Prop} {kc ks : Nat} (C : OwC p Z s m meth c own nm bytes maxL (some t)) (X : Stand p l e R s m args below meth c T locs cells slots) (hd : decode bytes pc = .ok (.areturn, 1)) (hc : cells ≤ kc) (hs : slots ≤ ks) (hv : v.isRef = true) (ht : t.isReference = true)
    (hQ : Q (some v) T.heap locs) : OwF p e below (OwD s below Q kc ks) T (mkF m pc Ls [v]) := by
  obtain ⟨hx, hby, -, -, -, hret, hlk, -⟩ := C
  obtain ⟨fs, hr, hrun, hended, hW, hsame⟩ := X.leave (v := some v) (fun h => by rw [hret] at h; cases h) hlk
  exact ⟨_, _, X.areturnOut hx hv hret ht (hb hby hd) hr, hrun, hended, _, _, rfl, hQ, ⟨_, rfl⟩, hW, hsame.mono hc hs⟩
theorem ow_instNull (C : OwC p Z s m meth c own nm bytes maxL ret) (X : Stand p l e R s m args below meth c T locs cells slots) (hd : decode bytes pc = .ok (.instanceof index, 3)) (hp : pc + 3 = pc') (k : OwF p e below D T (mkF m pc' Ls (.int 0 :: r))) : OwF p e below D T (mkF m pc Ls (.null :: r)) := by
  subst hp; exact OwF.st (fun t q => X.instanceofNull C.1 (g := mkF m pc Ls (.null :: r)) rfl rfl (hb C.2.1 hd) t q) k
theorem ow_instY (C : OwC p Z s m meth c own nm bytes maxL ret) (X : Stand p l e R s m args below meth c T locs cells slots) (eT : T.heap = h) (w : (Jvm.Cond.classLink own index K).before a0 Z = true) (F : Ins Z h a K true) (hd : decode bytes pc = .ok (.instanceof index, 3)) (hp : pc + 3 = pc')
    (k : ∀ T', Stand p l e R s m args below meth c T' locs cells slots → T'.heap = h → OwF p e below D T' (mkF m pc' Ls (.int 1 :: r))) : OwF p e below D T (mkF m pc Ls (.ref a :: r)) := by
  subst hp
  obtain ⟨T', X', e', st⟩ := instY X C.1 C.2.2.2.2.2.2.2 C.2.2.2.1 w eT F (g := mkF m pc Ls (.ref a :: r)) rfl rfl (hb C.2.1 hd)
  exact OwF.st st (k T' X' e')
theorem ow_instN (C : OwC p Z s m meth c own nm bytes maxL ret) (X : Stand p l e R s m args below meth c T locs cells slots) (eT : T.heap = h) (w : (Jvm.Cond.classLink own index K).before a0 Z = true) (E : Exa Z h a K2) (F : ∃ c t, Z.vm.findClass K2 = some c ∧ Z.vm.findClass K = some t ∧ Z.vm.assignable c t = false) (hd : decode bytes pc = .ok (.instanceof index, 3)) (hp : pc + 3 = pc')
    (k : ∀ T', Stand p l e R s m args below meth c T' locs cells slots → T'.heap = h → OwF p e below D T' (mkF m pc' Ls (.int 0 :: r))) : OwF p e below D T (mkF m pc Ls (.ref a :: r)) := by
  subst hp
  obtain ⟨T', X', e', st⟩ := instNo X C.1 C.2.2.2.2.2.2.2 C.2.2.2.1 w eT E F (g := mkF m pc Ls (.ref a :: r)) rfl rfl (hb C.2.1 hd)
  exact OwF.st st (k T' X' e')
theorem ow_cast (C : OwC p Z s m meth c own nm bytes maxL ret) (X : Stand p l e R s m args below meth c T locs cells slots) (eT : T.heap = h) (w : (Jvm.Cond.classLink own index K).before a0 Z = true) (F : Ins Z h a K true) (hd : decode bytes pc = .ok (.checkcast index, 3)) (hp : pc + 3 = pc')
    (k : ∀ T', Stand p l e R s m args below meth c T' locs cells slots → T'.heap = h → OwF p e below D T' (mkF m pc' Ls (.ref a :: r))) : OwF p e below D T (mkF m pc Ls (.ref a :: r)) := by
  subst hp
  obtain ⟨T', X', e', st⟩ := castY X C.1 C.2.2.2.2.2.2.2 C.2.2.2.1 w eT F (g := mkF m pc Ls (.ref a :: r)) rfl rfl (hb C.2.1 hd)
  exact OwF.st st (k T' X' e')
theorem ow_ifnull_n {o : Int} (C : OwC p Z s m meth c own nm bytes maxL ret) (X : Stand p l e R s m args below meth c T locs cells slots) (hd : decode bytes pc = .ok (.ifnull o, 3)) (ho : 0 ≤ (pc : Int) + o) (ht : ((pc : Int) + o).toNat = pcT) (k : OwF p e below D T (mkF m pcT Ls r)) : OwF p e below D T (mkF m pc Ls (.null :: r)) :=
  OwF.st (fun _ q => XS.ifnullYes X.here C.1 rfl rfl (hb C.2.1 hd) rfl ho ht q) k
theorem ow_ifnull_r {o : Int} (C : OwC p Z s m meth c own nm bytes maxL ret) (X : Stand p l e R s m args below meth c T locs cells slots) (hd : decode bytes pc = .ok (.ifnull o, 3)) (hp : pc + 3 = pc') (k : OwF p e below D T (mkF m pc' Ls r)) : OwF p e below D T (mkF m pc Ls (.ref a :: r)) := by
  subst hp; exact OwF.st (fun _ q => XS.ifnullNo X.here C.1 rfl (hb C.2.1 hd) rfl q) k
theorem ow_ifnonnull_n {o : Int} (C : OwC p Z s m meth c own nm bytes maxL ret) (X : Stand p l e R s m args below meth c T locs cells slots) (hd : decode bytes pc = .ok (.ifnonnull o, 3)) (hp : pc + 3 = pc') (k : OwF p e below D T (mkF m pc' Ls r)) : OwF p e below D T (mkF m pc Ls (.null :: r)) := by
  subst hp; exact OwF.st (fun _ q => XT.ifnonnullNo X.here C.1 rfl (hb C.2.1 hd) rfl q) k
theorem ow_ifnonnull_r {o : Int} (C : OwC p Z s m meth c own nm bytes maxL ret) (X : Stand p l e R s m args below meth c T locs cells slots) (hd : decode bytes pc = .ok (.ifnonnull o, 3)) (ho : 0 ≤ (pc : Int) + o) (ht : ((pc : Int) + o).toNat = pcT) (k : OwF p e below D T (mkF m pcT Ls r)) : OwF p e below D T (mkF m pc Ls (.ref a :: r)) :=
  OwF.st (fun _ q => XT.ifnonnullYes X.here C.1 rfl rfl (hb C.2.1 hd) rfl ho ht q) k
theorem ow_acmpY {cd : ClassFile.ACond} {x y : Value} {o : Int} (C : OwC p Z s m meth c own nm bytes maxL ret) (X : Stand p l e R s m args below meth c T locs cells slots) (hd : decode bytes pc = .ok (.if_acmp cd o, 3)) (hx : x.isRef = true) (hy : y.isRef = true) (hc : XT.acmp cd x y = true) (ho : 0 ≤ (pc : Int) + o) (ht : ((pc : Int) + o).toNat = pcT) (k : OwF p e below D T (mkF m pcT Ls r)) : OwF p e below D T (mkF m pc Ls (y :: x :: r)) :=
  OwF.st (fun _ q => XT.acmpYes X.here C.1 rfl rfl (hb C.2.1 hd) rfl hx hy hc ho ht q) k
theorem ow_acmpN {cd : ClassFile.ACond} {x y : Value} {o : Int} (C : OwC p Z s m meth c own nm bytes maxL ret) (X : Stand p l e R s m args below meth c T locs cells slots) (hd : decode bytes pc = .ok (.if_acmp cd o, 3)) (hx : x.isRef = true) (hy : y.isRef = true) (hc : XT.acmp cd x y = false) (hp : pc + 3 = pc') (k : OwF p e below D T (mkF m pc' Ls r)) : OwF p e below D T (mkF m pc Ls (y :: x :: r)) := by
  subst hp; exact OwF.st (fun _ q => XT.acmpNo X.here C.1 rfl (hb C.2.1 hd) rfl hx hy hc q) k
theorem ow_clone {ad : String} {cl : Cell} {cap : Nat} (C : OwC p Z s m meth c own nm bytes maxL ret) (X : Stand p l e R s m args below meth c T locs cells slots) (eT : T.heap = h)
    (w1 : (Jvm.Cond.methodLink own index ⟨ad, "clone", "()Ljava/lang/Object;"⟩).before a0 Z = true) (w2 : (Jvm.Cond.sameMethod ad "java/lang/Object" "clone" "()Ljava/lang/Object;").before a0 Z = true) (w3 : (Jvm.Cond.native ⟨"java/lang/Object", "clone", "()Ljava/lang/Object;"⟩).before a0 Z = true)
    (w4 : (Jvm.Cond.instanceMethod ⟨"java/lang/Object", "clone", "()Ljava/lang/Object;"⟩).before a0 Z = true) (w5 : (Jvm.Cond.selects ad ⟨ad, "clone", "()Ljava/lang/Object;"⟩ ⟨"java/lang/Object", "clone", "()Ljava/lang/Object;"⟩).before a0 Z = true) (w6 : (Jvm.Cond.castable ad "java/lang/Cloneable").before a0 Z = true)
    (A : Arr Z h a cl t) (E : Exa Z h a ad) (F : FitC Z cl) (hsz : Ls.size = maxL) (hd : decode bytes pc = .ok (.invokevirtual index, 3)) (hf : 1 ≤ R.frames) (hl : owCat r + 14 ≤ R.locals) (hcap : cl.slots.size ≤ cap) (hc : cells + 1 ≤ R.cells) (hsl : slots + cap ≤ R.slots) (hp : pc + 3 = pc')
    (k : ∀ T' h' b, b = h.size → Stand p l e R s m args below meth c T' locs (cells + 1) (slots + cap) → T'.heap = h' → Ext h h' → Arr Z h' b (Jvm.RoadKit.cloneOf cl) t → Exa Z h' b ad → OwF p e below D T' (mkF m pc' Ls (.ref b :: r))) : OwF p e below D T (mkF m pc Ls (.ref a :: r)) := by
  subst hp
  obtain ⟨T', h', X', e', E', A', Ex', st⟩ := cloneA X C.1 C.2.2.2.2.2.2.2 C.2.2.2.1 w1 w2 w3 w4 w5 w6 eT A E F (g := mkF m pc Ls (.ref a :: r)) rfl (by rw [C.2.2.1]; exact hsz) rfl (hb C.2.1 hd) hf (W := owCat r) (by show 2 * 0 + owCat r ≤ owCat r; omega) hl hcap hc hsl
  exact OwF.st st (k T' h' _ rfl X' e' E' A' Ex')
/-- C's chain of superclasses doesn't meet an instantiable K -/
theorem own_ns0 {O : String} (w : (Jvm.Cond.noSuperclass O).before a0 Z = true) (wk : (Jvm.Cond.instantiable K n).before a0 Z = true) (hn : O ≠ K) : NS Z O K := by
  obtain ⟨c, k, h1, h2, h3, -, -⟩ := Cond.noSuperclass_spec w
  obtain ⟨t, _, g1, -⟩ := Cond.instantiable_spec wk
  have ne := ids_ne h1 g1 hn
  refine ⟨c, t, h1, g1, fun fuel => ?_⟩
  cases fuel with
  | zero => rfl
  | succ f => simp [Vm.isSubclassAux, ne, h2, h3]
theorem own_ns1 {S : String} (w : (Jvm.Cond.superclass K2 S).before a0 Z = true) (wk : (Jvm.Cond.instantiable K n).before a0 Z = true) (q : NS Z K2 K) (hn : K2 ≠ K) : ∃ c t, Z.vm.findClass K2 = some c ∧ Z.vm.findClass K = some t ∧ Z.vm.assignable c t = false := by
  obtain ⟨c, t, h0, g0, n3⟩ := q
  obtain ⟨p, k, kp, h1, h2, h3, h4, h5, -, h7⟩ := Cond.superclass_spec h0 w
  obtain ⟨t', k', g1, g2, g5, g6, -⟩ := Cond.instantiable_spec wk
  cases g0.symm.trans g1
  have ne := ids_ne h0 g0 hn
  have g7 : k'.isInterface = false := by simp only [Bool.or_eq_false_iff] at g6; exact g6.1
  refine ⟨c, t, h0, g0, ?_⟩
  show Z.vm.assignableAux (255 + 1) c t = false
  simp [Vm.assignableAux, ne, h2, g2, h5, g5, g7, Vm.isSubclass, n3]
end OwnRef
section OwnMore
variable {p : Program} {l : Launch} {e : Env} {R : Room} {s : State} {m : MethodId} {args : Array Value} {below : List Frame} {meth : Method} {c : Code} {T : State} {locs : List Loc} {cells slots : Nat} {Z : State} {a0 : Array Value} {h h' : Heap}
variable {own nm : String} {bytes : ByteArray} {maxL : Nat} {ret : Option FieldType} {D : State → Outcome → Prop} {pc pc' pcT : Nat} {Ls Ls' : Array Slot} {r : List Value} {a b : Addr} {K K2 : String} {index n n2 kk : Nat} {v : Value} {t : FieldType} {f f2 : Nat → Value}
/-- roads that meet with unlike heaps: what holds of each -/
theorem ow_joinH {n0 CC SS : Nat} {P : Heap → Prop} {f f' : JFrame} (X : Stand p l e R s m args below meth c T locs cells slots) (A : ∀ D : State → Outcome → Prop, (∀ T' locs', Stand p l e R s m args below meth c T' locs' CC SS → Fr n0 locs' → P T'.heap → OwF p e below D T' f') → OwF p e below D T f)
    (k : ∀ T' locs', Stand p l e R s m args below meth c T' locs' CC SS → Fr n0 locs' → P T'.heap → OwF p e below D T' f') : OwF p e below D T f := A D k
/-- a private method by its contract -/
theorem ow_callR {y : MethodName} {by' : ByteArray} {mx : Nat} {rt : Option FieldType} {rm : Room} {Q : Option Value → Heap → List Loc → Prop} {stk argsL rest : List Value} {ps : List FieldType} {pr : Option FieldType}
    (C : OwC p Z s m meth c own nm bytes maxL ret) (X : Stand p l e R s m args below meth c T locs cells slots) (eT : T.heap = h)
    (w1 : (Jvm.Cond.methodLink own index y).before a0 Z = true) (w2 : (Jvm.Cond.instanceMethod y).before a0 Z = true) (wp : (Jvm.Cond.privateMethod y).before a0 Z = true) (wi : (Jvm.Cond.instantiable y.cls kk).before a0 Z = true) (w3 : (Jvm.Cond.initialized y.cls).before a0 Z = true) (w4 : (Jvm.Cond.code y by' mx rt).before a0 Z = true)
    (hy : y.cls ≠ "java/lang/invoke/MethodHandle" ∧ y.cls ≠ "java/lang/invoke/VarHandle") (E : Exa Z h a K)
    (M : OwCon l y by' mx rt rm Z (.ref a :: argsL).toArray h Q) (hds : parseMethodDescriptor y.desc = some ⟨ps, pr⟩) (hln : argsL.length = ps.length) (hst : stk = argsL.reverse ++ .ref a :: rest) (hsz : Ls.size = maxL)
    (hd : decode bytes pc = .ok (.invokevirtual index, 3)) (hfr : rm.frames + 1 ≤ R.frames) (hlo : owCat rest + (mx + 11) + rm.locals ≤ R.locals) (hcl : cells + rm.cells ≤ R.cells) (hsl : slots + rm.slots ≤ R.slots) (hp : pc + 3 = pc')
    (k : ∀ T' v L, Stand p l e R s m args below meth c T' (locs ++ L) (cells + rm.cells) (slots + rm.slots) → Q v T'.heap L → OwF p e below D T' (mkF m pc' Ls (v.toList ++ rest))) : OwF p e below D T (mkF m pc Ls stk) := by
  subst hp; subst hst
  have hZ := C.2.2.2.2.2.2.2
  obtain ⟨cc, q1, q2⟩ := E.cell
  obtain ⟨ci, ki, i1, i2, -, i4, -⟩ := Cond.instantiable_spec (mvT (args := args) hZ wi)
  have hpa : s.PrivateAt y := Cond.privateMethod_at (mvP hZ wp (args := #[]))
  obtain ⟨v, _, ⟨T', L', k', n'⟩, -, X', ⟨Lc, hQ, l', y', z'⟩, st⟩ := X.privateBack C.1 (y := y) C.2.2.2.1 (mvT hZ w1) (mvT hZ w2) (selects_self_of_private i1 i2 (Bool.or_eq_false_iff.mp i4).1 hpa (mvT hZ w2) hy) hpa (mvT hZ w4) hy (backOf (W := owCat rest) (M []) hZ w4 w3 hfr hlo) (g := mkF m pc Ls (argsL.reverse ++ .ref a :: rest)) rfl (by rw [C.2.2.1]; exact hsz) (Steps.refl _) (a := a) (by rw [eT]; exact q1) q2 (argsL := argsL) (rest := rest) (lenOf hds hln) rfl (by show 2 * 0 + owCat rest ≤ owCat rest; omega) (hb C.2.1 hd) (fun _ _ => ⟨rfl, eT, hcl, hsl⟩)
  dsimp only [Pt.U, Pt.locs, Pt.cells, Pt.slots] at X' l' y' z' st hQ
  subst l' y' z'
  exact OwF.st (fun _ q => st.trans q) (k T' v Lc X' hQ)
/-- a pure private method that returns a value -/
theorem ow_callRP {y : MethodName} {by' : ByteArray} {mx : Nat} {rt : Option FieldType} {rm : Room} {v : Value} {stk argsL rest : List Value} {ps : List FieldType} {pr : Option FieldType}
    (C : OwC p Z s m meth c own nm bytes maxL ret) (X : Stand p l e R s m args below meth c T locs cells slots) (eT : T.heap = h)
    (w1 : (Jvm.Cond.methodLink own index y).before a0 Z = true) (w2 : (Jvm.Cond.instanceMethod y).before a0 Z = true) (wp : (Jvm.Cond.privateMethod y).before a0 Z = true) (wi : (Jvm.Cond.instantiable y.cls kk).before a0 Z = true) (w3 : (Jvm.Cond.initialized y.cls).before a0 Z = true) (w4 : (Jvm.Cond.code y by' mx rt).before a0 Z = true)
    (hy : y.cls ≠ "java/lang/invoke/MethodHandle" ∧ y.cls ≠ "java/lang/invoke/VarHandle") (E : Exa Z h a K)
    (M : OwCon l y by' mx rt rm Z (.ref a :: argsL).toArray h (OwP (some v) h)) (hrm : rm.cells = 0 ∧ rm.slots = 0) (hds : parseMethodDescriptor y.desc = some ⟨ps, pr⟩) (hln : argsL.length = ps.length) (hst : stk = argsL.reverse ++ .ref a :: rest) (hsz : Ls.size = maxL)
    (hd : decode bytes pc = .ok (.invokevirtual index, 3)) (hfr : rm.frames + 1 ≤ R.frames) (hlo : owCat rest + (mx + 11) + rm.locals ≤ R.locals) (hcl : cells ≤ R.cells) (hsl : slots ≤ R.slots) (hp : pc + 3 = pc')
    (k : ∀ T', Stand p l e R s m args below meth c T' locs cells slots → T'.heap = h → OwF p e below D T' (mkF m pc' Ls (v :: rest))) : OwF p e below D T (mkF m pc Ls stk) := by
  refine ow_callR C X eT w1 w2 wp wi w3 w4 hy E M hds hln hst hsz hd hfr hlo (by rw [hrm.1]; exact hcl) (by rw [hrm.2]; exact hsl) hp fun T' v' L' X' hQ => ?_
  obtain ⟨rfl, rfl, hh⟩ := hQ
  rw [hrm.1, hrm.2, List.append_nil] at X'
  exact k T' X' hh
/-- a pure private method that returns nothing -/
theorem ow_callRN {y : MethodName} {by' : ByteArray} {mx : Nat} {rt : Option FieldType} {rm : Room} {stk argsL rest : List Value} {ps : List FieldType} {pr : Option FieldType}
    (C : OwC p Z s m meth c own nm bytes maxL ret) (X : Stand p l e R s m args below meth c T locs cells slots) (eT : T.heap = h)
    (w1 : (Jvm.Cond.methodLink own index y).before a0 Z = true) (w2 : (Jvm.Cond.instanceMethod y).before a0 Z = true) (wp : (Jvm.Cond.privateMethod y).before a0 Z = true) (wi : (Jvm.Cond.instantiable y.cls kk).before a0 Z = true) (w3 : (Jvm.Cond.initialized y.cls).before a0 Z = true) (w4 : (Jvm.Cond.code y by' mx rt).before a0 Z = true)
    (hy : y.cls ≠ "java/lang/invoke/MethodHandle" ∧ y.cls ≠ "java/lang/invoke/VarHandle") (E : Exa Z h a K)
    (M : OwCon l y by' mx rt rm Z (.ref a :: argsL).toArray h (OwP none h)) (hrm : rm.cells = 0 ∧ rm.slots = 0) (hds : parseMethodDescriptor y.desc = some ⟨ps, pr⟩) (hln : argsL.length = ps.length) (hst : stk = argsL.reverse ++ .ref a :: rest) (hsz : Ls.size = maxL)
    (hd : decode bytes pc = .ok (.invokevirtual index, 3)) (hfr : rm.frames + 1 ≤ R.frames) (hlo : owCat rest + (mx + 11) + rm.locals ≤ R.locals) (hcl : cells ≤ R.cells) (hsl : slots ≤ R.slots) (hp : pc + 3 = pc')
    (k : ∀ T', Stand p l e R s m args below meth c T' locs cells slots → T'.heap = h → OwF p e below D T' (mkF m pc' Ls rest)) : OwF p e below D T (mkF m pc Ls stk) := by
  refine ow_callR C X eT w1 w2 wp wi w3 w4 hy E M hds hln hst hsz hd hfr hlo (by rw [hrm.1]; exact hcl) (by rw [hrm.2]; exact hsl) hp fun T' v' L' X' hQ => ?_
  obtain ⟨rfl, rfl, hh⟩ := hQ
  rw [hrm.1, hrm.2, List.append_nil] at X'
  exact k T' X' hh
/-- the array at a is of a class whose places take a C, itself an array class over ty -/
def OwOv (Z : State) (h : Heap) (a : Addr) (ty : FieldType) (C : String) : Prop := ∃ c : Cell, h[a]? = some c ∧ OvrA Z c.cls ty C
theorem OwOv.ext {C : String} (O : OwOv Z h a t C) (E : Ext h h') : OwOv Z h' a t C := by obtain ⟨c, q, o⟩ := O; exact ⟨c, E.2 _ _ q, o⟩
theorem OwOv.wr {C : String} {sl : Nat} (O : OwOv Z h a t C) (W : Wr h h' b sl v) : OwOv Z h' a t C := by
  obtain ⟨c, q, o⟩ := O
  obtain ⟨c', e1, e2, -⟩ := wr_at W q
  exact ⟨c', e1, by rw [e2]; exact o⟩
theorem OwOv.keep {C : String} {ws : List Addr} (O : OwOv Z h a t C) (K : Keep h h' ws) : OwOv Z h' a t C := by
  obtain ⟨c, q, o⟩ := O
  obtain ⟨c', e1, e2, -⟩ := K.2.2 _ _ q
  exact ⟨c', e1, by rw [e2]; exact o⟩
theorem OwOv.sto {C : String} {ty : FieldType} (O : OwOv Z h a ty C) (A : OwA Z h a t n f) (I : Ins Z h b C true) : Sto Z h a (.ref b) := by
  obtain ⟨c, q, o⟩ := O
  obtain ⟨c', A', -⟩ := A
  cases q.symm.trans A'.1
  exact Sto.ofVA A' rfl o I
/-- a new array of arrays -/
theorem ow_anewA {K ad : String} {ty : FieldType} {z : Int32} {N cap : Nat} (C : OwC p Z s m meth c own nm bytes maxL ret) (X : Stand p l e R s m args below meth c T locs cells slots) (eT : T.heap = h) (hC : (FieldType.array ty).toString = K) (had : "[" ++ K = ad) (w : (Jvm.Cond.classLink own index K).before a0 Z = true) (w2 : (Jvm.Cond.arrayOver (.array ty)).before a0 Z = true) (hd : decode bytes pc = .ok (.anewarray index, 3))
    (hn : ¬ z < 0) (hN : z.toNatClampNeg = N) (hcap : N ≤ cap) (hb8 : cap * 8 ≤ 536870912) (hc : cells + 1 ≤ R.cells) (hl : slots + cap ≤ R.slots) (hp : pc + 3 = pc')
    (k : ∀ T' h' a, a = h.size → Stand p l e R s m args below meth c T' locs (cells + 1) (slots + cap) → T'.heap = h' → Ext h h' → OwA Z h' a (.array ty) N (fun _ => .null) → Exa Z h' a ad → OwOv Z h' a ty K → OwF p e below D T' (mkF m pc' Ls (.ref a :: r))) : OwF p e below D T (mkF m pc Ls (.int z :: r)) := by
  subst hp; subst hN
  obtain ⟨T', h', cA, X', e', E', A', Ex', O', st⟩ := newRA X C.1 C.2.2.2.2.2.2.2 C.2.2.2.1 hC w w2 eT (g := mkF m pc Ls (.int z :: r)) rfl (hb C.2.1 hd) rfl hn hcap hb8 hc hl had
  exact OwF.st st (k T' h' _ rfl X' e' E' (OwA.new A') Ex' ⟨_, A'.1, O'⟩)
/-- a new array of a primitive kind, its class told -/
theorem ow_newarrE {aty : ArrayType} {ad : String} {z : Int32} {N cap : Nat} (C : OwC p Z s m meth c own nm bytes maxL ret) (X : Stand p l e R s m args below meth c T locs cells slots) (eT : T.heap = h) (had : "[" ++ (newarray.typeOf aty).toString = ad) (w : (Jvm.Cond.arrayClass (newarray.typeOf aty)).before a0 Z = true) (hd : decode bytes pc = .ok (.newarray aty, 2))
    (hn : ¬ z < 0) (hN : z.toNatClampNeg = N) (hcap : N ≤ cap) (hb8 : cap * 8 ≤ 536870912) (hc : cells + 1 ≤ R.cells) (hl : slots + cap ≤ R.slots) (hp : pc + 2 = pc')
    (k : ∀ T' h' a, a = h.size → Stand p l e R s m args below meth c T' locs (cells + 1) (slots + cap) → T'.heap = h' → Ext h h' → OwA Z h' a (newarray.typeOf aty) N (fun _ => defaultValue (newarray.typeOf aty)) → Exa Z h' a ad → OwF p e below D T' (mkF m pc' Ls (.ref a :: r))) : OwF p e below D T (mkF m pc Ls (.int z :: r)) := by
  subst hp; subst hN
  obtain ⟨T', h', cA, X', e', E', A', Ex', st⟩ := newPE X C.1 C.2.2.2.2.2.2.2 w eT (g := mkF m pc Ls (.int z :: r)) rfl (hb C.2.1 hd) rfl hn hcap hb8 hc hl had
  exact OwF.st st (k T' h' _ rfl X' e' E' (OwA.new A') Ex')
theorem ow_aastore {z : Int32} {i : Nat} (C : OwC p Z s m meth c own nm bytes maxL ret) (X : Stand p l e R s m args below meth c T locs cells slots) (eT : T.heap = h) (A : OwA Z h a t n f) (hty : t.isReference = true) (S : Sto Z h a v) (h0 : ¬ z < 0) (hj : z.toNatClampNeg = i) (hlt : i < n) (hd : decode bytes pc = .ok (.aastore, 1)) (hp : pc + 1 = pc')
    (k : ∀ T' h', Stand p l e R s m args below meth c T' (locs ++ [⟨a, i⟩]) cells slots → T'.heap = h' → Wr h h' a i v → OwF p e below D T' (mkF m pc' Ls r)) : OwF p e below D T (mkF m pc Ls (v :: .int z :: .ref a :: r)) := by
  subst hp; subst hj
  obtain ⟨cl, A, S', H⟩ := A
  obtain ⟨T', h', X', e', W', st⟩ := stR X C.1 C.2.2.2.2.2.2.2 eT A (j := z) (v := v) (fun w => w.elim h0 (fun w => by omega)) hty S (g := mkF m pc Ls (v :: .int z :: .ref a :: r)) rfl rfl (hb C.2.1 hd)
  exact OwF.st st (k T' h' X' e' W')
theorem own_getD {n k : Nat} {f : Nat → Value} {d : Value} (h : k < n) : ((List.range n).map f).getD k d = f k := by
  rw [List.getD_eq_getElem?_getD, List.getElem?_map, List.getElem?_range h]; rfl
theorem OwA.arv {z : Int32} (A : OwA Z h a t n f) (hz : z.toNatClampNeg = n) (h0 : ¬ z < 0) (hf : ∀ j, j < n → fits t (f j) = true) (d : Value) : ∃ k, Arv Z h a k t z ((List.range n).map f) d := by
  obtain ⟨c, A, S, H⟩ := A
  exact ⟨c.cls, c, A, rfl, by rw [S, hz], h0, fun k hk => by rw [own_getD (by omega)]; exact H k (by omega), fun k hk => by rw [own_getD (by omega)]; exact hf k (by omega)⟩
/-- System.arraycopy of a primitive kind -/
theorem ow_acopy {zs zd sp dp nn : Int32} {si di ni n0 : Nat} (C : OwC p Z s m meth c own nm bytes maxL ret) (X : Stand p l e R s m args below meth c T locs cells slots) (eT : T.heap = h)
    (w1 : (Jvm.Cond.methodLink own index Jvm.Stand.acN).before a0 Z = true) (w2 : (Jvm.Cond.native Jvm.Stand.acN).before a0 Z = true) (w3 : (Jvm.Cond.static Jvm.Stand.acN).before a0 Z = true) (w4 : (Jvm.Cond.initialized "java/lang/System").before a0 Z = true)
    (A : OwA Z h a t n f) (B : OwA Z h b t n2 f2) (hty : refKind t = false) (hfa : ∀ j, j < n → fits t (f j) = true) (hfb : ∀ j, j < n2 → fits t (f2 j) = true) (hzs : zs.toNatClampNeg = n ∧ ¬ zs < 0) (hzd : zd.toNatClampNeg = n2 ∧ ¬ zd < 0)
    (hs0 : ¬ sp < 0) (hs : sp.toNatClampNeg = si) (hd0 : ¬ dp < 0) (hdd : dp.toNatClampNeg = di) (hn0 : ¬ nn < 0) (hnn : nn.toNatClampNeg = ni) (hb1 : si + ni ≤ n) (hb2 : di + ni ≤ n2) (N : Fr n0 locs) (ge : n0 ≤ b) (hsz : Ls.size = maxL) (hd : decode bytes pc = .ok (.invokestatic index, 3))
    (hfr : 1 ≤ R.frames) (hlo : owCat r + (nativeFrameWords "java/lang/System" "arraycopy" 5 + 11) ≤ R.locals) (hp : pc + 3 = pc')
    (k : ∀ T' h' L, Stand p l e R s m args below meth c T' L cells slots → T'.heap = h' → Fr n0 L → Keep h h' [b] → OwA Z h' b t n2 (fun j => if di ≤ j ∧ j < di + ni then f (si + (j - di)) else f2 j) → OwF p e below D T' (mkF m pc' Ls r)) : OwF p e below D T (mkF m pc Ls (.int nn :: .int dp :: .ref b :: .int sp :: .ref a :: r)) := by
  subst hp; subst hs; subst hdd; subst hnn
  obtain ⟨ka, VA⟩ := A.arv hzs.1 hzs.2 hfa .null
  obtain ⟨kb, VB⟩ := B.arv hzd.1 hzd.2 hfb .null
  obtain ⟨T', h', L', X', e', N', K', V', st⟩ := cpA X C.1 C.2.2.2.2.2.2.2 C.2.2.2.1 w1 w2 w3 w4 eT VA VB (Or.inl ⟨rfl, hty⟩) hs0 hd0 hn0 (by rw [hzs.1]; exact hb1) (by rw [hzd.1]; exact hb2) rfl (by rw [List.length_map, List.length_range]; exact hb2) N ge (g := mkF m pc Ls (.int nn :: .int dp :: .ref b :: .int sp :: .ref a :: r)) rfl (by rw [C.2.2.1]; exact hsz) rfl (hb C.2.1 hd) hfr (W := owCat r) (by show 2 * 0 + owCat r ≤ owCat r; omega) hlo
  refine OwF.st st (k T' h' L' X' e' N' K' ?_)
  obtain ⟨c', A', -, S', -, H', -⟩ := V'
  refine ⟨c', A', by rw [S']; exact hzd.1, fun j hj => ?_⟩
  rw [H' j (by rw [S', hzd.1]; exact hj)]
  congr 1
  dsimp only
  rw [List.getD_eq_getElem?_getD]
  by_cases q1 : j < dp.toNatClampNeg
  · rw [if_neg (by omega), List.append_assoc, List.getElem?_append_left (by rw [List.length_take, List.length_map, List.length_range]; omega), List.getElem?_take_of_lt q1, ← List.getD_eq_getElem?_getD, own_getD hj]
  · have hlt : ((List.take dp.toNatClampNeg ((List.range n2).map f2))).length = dp.toNatClampNeg := by rw [List.length_take, List.length_map, List.length_range]; omega
    rw [List.append_assoc, List.getElem?_append_right (by omega), hlt]
    by_cases q2 : j < dp.toNatClampNeg + nn.toNatClampNeg
    · rw [if_pos ⟨by omega, q2⟩, List.getElem?_append_left (by rw [List.length_map, List.length_range]; omega), ← List.getD_eq_getElem?_getD, own_getD (by omega), own_getD (by omega)]
    · rw [if_neg (by omega), List.getElem?_append_right (by rw [List.length_map, List.length_range]; omega), List.length_map, List.length_range, List.getElem?_drop, ← List.getD_eq_getElem?_getD, show dp.toNatClampNeg + nn.toNatClampNeg + (j - dp.toNatClampNeg - nn.toNatClampNeg) = j from by omega, own_getD hj]
end OwnMore
theorem own_nm {a b : Addr} (h : a ≠ b) : a ∉ [b] := fun q => h (List.mem_singleton.mp q)
theorem own_nm1 {a b : Addr} (h : a ≠ b) : a ∉ [b] := fun q => h (List.mem_singleton.mp q)
theorem own_nm2 {a b c : Addr} (h : a ≠ b) (h2 : a ≠ c) : a ∉ [b, c] := fun q => by simp only [List.mem_cons, List.not_mem_nil, or_false] at q; exact q.elim h h2
theorem own_kt {n : Nat} {a : Addr} {ws : List Addr} (h : n ≤ a) : ∀ x ∈ [a], x ∈ ws ∨ n ≤ x := fun x q => by cases List.mem_singleton.mp q; exact Or.inr h
theorem own_nil {a : Addr} : a ∉ ([] : List Addr) := fun q => nomatch q
theorem own_all0 {n : Nat} : ∀ x ∈ ([] : List Addr), n ≤ x := fun x q => nomatch q
theorem own_all1 {n : Nat} {a : Addr} (h : n ≤ a) : ∀ x ∈ [a], n ≤ x := fun x q => by cases List.mem_singleton.mp q; exact h
def OwW (W : Nat) (w rb rm : Int32) : Prop := (W = 1 ∧ w = 1 ∧ rb = 14 ∧ rm = 16383) ∨ (W = 2 ∧ w = 2 ∧ rb = 13 ∧ rm = 8191)
theorem own_ixI {i : Nat} (h : i < 2147483648) : (Int32.ofNat i).toInt = i := by
  rw [Int32.toInt_ofNat_of_lt]; omega
theorem own_ix0 {i : Nat} (h : i < 2147483648) : ¬ Int32.ofNat i < 0 := by rw [Int32.lt_iff_toInt_lt, own_ixI h]; show ¬ (i : Int) < 0; omega
theorem own_ixN {i : Nat} (h : i < 2147483648) : (Int32.ofNat i).toNatClampNeg = i := by
  show (Int32.ofNat i).toInt.toNat = i
  rw [own_ixI h]; rfl
theorem own_w1 {W : Nat} {w rb rm : Int32} (h : OwW W w rb rm) : ¬ w < 1 := by rcases h with ⟨-, rfl, -, -⟩ | ⟨-, rfl, -, -⟩ <;> decide
theorem own_w0 {W : Nat} {w rb rm : Int32} (h : OwW W w rb rm) : ¬ w < 0 := by rcases h with ⟨-, rfl, -, -⟩ | ⟨-, rfl, -, -⟩ <;> decide
theorem own_wN {W : Nat} {w rb rm : Int32} (h : OwW W w rb rm) : w.toNatClampNeg = W := by rcases h with ⟨rfl, rfl, -, -⟩ | ⟨rfl, rfl, -, -⟩ <;> decide
theorem own_rm {W : Nat} {w rb rm : Int32} (h : OwW W w rb rm) : (1 : Int32) <<< (rb &&& 31) - 1 = rm := by rcases h with ⟨-, -, rfl, rfl⟩ | ⟨-, -, rfl, rfl⟩ <;> decide
theorem own_pg {W : Nat} {w rb rm : Int32} (h : OwW W w rb rm) : w <<< (rb &&& 31) = 16384 := by rcases h with ⟨-, rfl, rfl, -⟩ | ⟨-, rfl, rfl, -⟩ <;> decide
theorem own_ix_ : ∀ n, n < 4 → (XT.ushrL (Int64.ofNat n) 14).toInt32 = 0 ∧ (XT.ushrL (Int64.ofNat n) 13).toInt32 = 0 := by decide +kernel
theorem own_ix {W n : Nat} {w rb rm : Int32} (h : OwW W w rb rm) (hn : n < 4) : (XT.ushrL (Int64.ofNat n) rb).toInt32 = 0 := by
  rcases h with ⟨-, -, rfl, -⟩ | ⟨-, -, rfl, -⟩
  · exact (own_ix_ n hn).1
  · exact (own_ix_ n hn).2
theorem own_of_ : ∀ n, n < 4 → (Int64.ofNat n &&& (16383 : Int32).toInt64).toInt32 * 1 = Int32.ofNat (n * 1) ∧ (Int64.ofNat n &&& (8191 : Int32).toInt64).toInt32 * 2 = Int32.ofNat (n * 2) := by decide +kernel
theorem own_W4 {W : Nat} {w rb rm : Int32} (h : OwW W w rb rm) : 1 ≤ W ∧ W ≤ 2 := by rcases h with ⟨rfl, -⟩ | ⟨rfl, -⟩ <;> decide
theorem own_nW {W n : Nat} {w rb rm : Int32} (h : OwW W w rb rm) (hn : n < 4) : n * W + W ≤ 8 := by rcases h with ⟨rfl, -⟩ | ⟨rfl, -⟩ <;> omega
theorem own_len1 (n : Nat) : Int64.ofNat n + 1 = Int64.ofNat (n + 1) := by rw [Int64.ofNat_add]; rfl
theorem d1_0 : decode jdk_29_method_69_code 0 = .ok (.iload_n 0, 1) := by decide +kernel
theorem d1_1 : decode jdk_29_method_69_code 1 = .ok (.iload_n 1, 1) := by decide +kernel
theorem d1_2 : decode jdk_29_method_69_code 2 = .ok (.if_icmp .gt 7, 3) := by decide +kernel
theorem d1_5 : decode jdk_29_method_69_code 5 = .ok (.iload_n 0, 1) := by decide +kernel
theorem d1_6 : decode jdk_29_method_69_code 6 = .ok (.goto 4, 3) := by decide +kernel
theorem d1_9 : decode jdk_29_method_69_code 9 = .ok (.iload_n 1, 1) := by decide +kernel
theorem d1_10 : decode jdk_29_method_69_code 10 = .ok (.ireturn, 1) := by decide +kernel
theorem pn_1 : plainFor (⟨"java/lang/Math", "min", "(II)I"⟩ : MethodName) = true := by first | exact plainFor_of_name (by first | (simp [plainName, overriddenIn]; done) | decide +kernel) | decide +kernel
theorem pd_0 : parseMethodDescriptor "(II)I" = some ⟨[.int, .int], (some .int)⟩ := by decide +kernel
def own_min (q0 : Int32) (q1 : Int32) : Int32 := if q1 < q0 then q1 else q0
set_option maxRecDepth 65536 in
set_option maxHeartbeats 40000000 in
theorem rm_min (l : Launch) (Z : State) (a0 : Array Value) (hw : ∀ d ∈ tables_1, d.before a0 Z = true) (q0 : Int32) (q1 : Int32)  (h0 : Heap)   :
    OwCon l (⟨"java/lang/Math", "min", "(II)I"⟩ : MethodName) jdk_29_method_69_code 2 (some .int) ({ frames := 0, cells := 0, slots := 0, locals := 0 } : Room) Z #[(.int q0), (.int q1)] h0 (OwP (some (.int (own_min q0 q1))) h0) := by
  refine OwCon.of pn_1 (Ls := #[.val (.int q0), .val (.int q1)]) (fun m => by first | (simp [entryFrame, mkF, argsToLocals, Value.category]; done) | rfl) ?_
  intro p e s m below meth c s₁ C X0 e0
  refine ow_iloadN C X0 d1_0 rfl (pc' := 1) rfl ?_
  refine ow_iloadN C X0 d1_1 rfl (pc' := 2) rfl ?_
  refine ow_icmp_gt C X0 d1_2 (pcT := 9) (pc' := 5) (by decide) (by decide) rfl (fun b2 => ?_) (fun b2 => ?_)
  · refine ow_iloadN C X0 d1_9 rfl (pc' := 10) rfl ?_
    exact ow_retI C X0 d1_10 (Nat.le_of_ble_eq_true rfl) (Nat.le_of_ble_eq_true rfl) ⟨(show some (Value.int q1) = some (Value.int (own_min q0 q1)) from congrArg (fun z => some (Value.int z)) (by unfold own_min; rw [if_pos b2])), rfl, e0⟩
  · refine ow_iloadN C X0 d1_5 rfl (pc' := 6) rfl ?_
    refine ow_goto C X0 d1_6 (pcT := 10) (by decide) (by decide) ?_
    exact ow_retI C X0 d1_10 (Nat.le_of_ble_eq_true rfl) (Nat.le_of_ble_eq_true rfl) ⟨(show some (Value.int q0) = some (Value.int (own_min q0 q1)) from congrArg (fun z => some (Value.int z)) (by unfold own_min; rw [if_neg b2])), rfl, e0⟩
theorem d5_0 : decode jdk_29_method_65_code 0 = .ok (.iload_n 0, 1) := by decide +kernel
theorem d5_1 : decode jdk_29_method_65_code 1 = .ok (.iload_n 1, 1) := by decide +kernel
theorem d5_2 : decode jdk_29_method_65_code 2 = .ok (.if_icmp .lt 7, 3) := by decide +kernel
theorem d5_5 : decode jdk_29_method_65_code 5 = .ok (.iload_n 0, 1) := by decide +kernel
theorem d5_6 : decode jdk_29_method_65_code 6 = .ok (.goto 4, 3) := by decide +kernel
theorem d5_9 : decode jdk_29_method_65_code 9 = .ok (.iload_n 1, 1) := by decide +kernel
theorem d5_10 : decode jdk_29_method_65_code 10 = .ok (.ireturn, 1) := by decide +kernel
theorem pn_5 : plainFor (⟨"java/lang/Math", "max", "(II)I"⟩ : MethodName) = true := by first | exact plainFor_of_name (by first | (simp [plainName, overriddenIn]; done) | decide +kernel) | decide +kernel
def own_max (q0 : Int32) (q1 : Int32) : Int32 := if q0 < q1 then q1 else q0
set_option maxRecDepth 65536 in
set_option maxHeartbeats 40000000 in
theorem rm_max (l : Launch) (Z : State) (a0 : Array Value) (hw : ∀ d ∈ tables_1, d.before a0 Z = true) (q0 : Int32) (q1 : Int32)  (h0 : Heap)   :
    OwCon l (⟨"java/lang/Math", "max", "(II)I"⟩ : MethodName) jdk_29_method_65_code 2 (some .int) ({ frames := 0, cells := 0, slots := 0, locals := 0 } : Room) Z #[(.int q0), (.int q1)] h0 (OwP (some (.int (own_max q0 q1))) h0) := by
  refine OwCon.of pn_5 (Ls := #[.val (.int q0), .val (.int q1)]) (fun m => by first | (simp [entryFrame, mkF, argsToLocals, Value.category]; done) | rfl) ?_
  intro p e s m below meth c s₁ C X0 e0
  refine ow_iloadN C X0 d5_0 rfl (pc' := 1) rfl ?_
  refine ow_iloadN C X0 d5_1 rfl (pc' := 2) rfl ?_
  refine ow_icmp_lt C X0 d5_2 (pcT := 9) (pc' := 5) (by decide) (by decide) rfl (fun b2 => ?_) (fun b2 => ?_)
  · refine ow_iloadN C X0 d5_9 rfl (pc' := 10) rfl ?_
    exact ow_retI C X0 d5_10 (Nat.le_of_ble_eq_true rfl) (Nat.le_of_ble_eq_true rfl) ⟨(show some (Value.int q1) = some (Value.int (own_max q0 q1)) from congrArg (fun z => some (Value.int z)) (by unfold own_max; rw [if_pos b2])), rfl, e0⟩
  · refine ow_iloadN C X0 d5_5 rfl (pc' := 6) rfl ?_
    refine ow_goto C X0 d5_6 (pcT := 10) (by decide) (by decide) ?_
    exact ow_retI C X0 d5_10 (Nat.le_of_ble_eq_true rfl) (Nat.le_of_ble_eq_true rfl) ⟨(show some (Value.int q0) = some (Value.int (own_max q0 q1)) from congrArg (fun z => some (Value.int z)) (by unfold own_max; rw [if_neg b2])), rfl, e0⟩
theorem d4_0 : decode jdk_33_method_47_code 0 = .ok (.iload_n 0, 1) := by decide +kernel
theorem d4_1 : decode jdk_33_method_47_code 1 = .ok (.ifCond .gt 14, 3) := by decide +kernel
theorem d4_4 : decode jdk_33_method_47_code 4 = .ok (.iload_n 0, 1) := by decide +kernel
theorem d4_5 : decode jdk_33_method_47_code 5 = .ok (.ifCond .ne 8, 3) := by decide +kernel
theorem d4_8 : decode jdk_33_method_47_code 8 = .ok (.bipush 32, 2) := by decide +kernel
theorem d4_10 : decode jdk_33_method_47_code 10 = .ok (.goto 4, 3) := by decide +kernel
theorem d4_13 : decode jdk_33_method_47_code 13 = .ok (.iconst 0, 1) := by decide +kernel
theorem d4_14 : decode jdk_33_method_47_code 14 = .ok (.ireturn, 1) := by decide +kernel
theorem d4_15 : decode jdk_33_method_47_code 15 = .ok (.bipush 31, 2) := by decide +kernel
theorem d4_17 : decode jdk_33_method_47_code 17 = .ok (.istore_n 1, 1) := by decide +kernel
theorem d4_18 : decode jdk_33_method_47_code 18 = .ok (.iload_n 0, 1) := by decide +kernel
theorem d4_19 : decode jdk_33_method_47_code 19 = .ok (.ldc_w 264, 3) := by decide +kernel
theorem d4_22 : decode jdk_33_method_47_code 22 = .ok (.if_icmp .lt 11, 3) := by decide +kernel
theorem d4_25 : decode jdk_33_method_47_code 25 = .ok (.iinc 1 (-16), 3) := by decide +kernel
theorem d4_28 : decode jdk_33_method_47_code 28 = .ok (.iload_n 0, 1) := by decide +kernel
theorem d4_29 : decode jdk_33_method_47_code 29 = .ok (.bipush 16, 2) := by decide +kernel
theorem d4_31 : decode jdk_33_method_47_code 31 = .ok (.iushr, 1) := by decide +kernel
theorem d4_32 : decode jdk_33_method_47_code 32 = .ok (.istore_n 0, 1) := by decide +kernel
theorem d4_33 : decode jdk_33_method_47_code 33 = .ok (.iload_n 0, 1) := by decide +kernel
theorem d4_34 : decode jdk_33_method_47_code 34 = .ok (.sipush 256, 3) := by decide +kernel
theorem d4_37 : decode jdk_33_method_47_code 37 = .ok (.if_icmp .lt 11, 3) := by decide +kernel
theorem d4_40 : decode jdk_33_method_47_code 40 = .ok (.iinc 1 (-8), 3) := by decide +kernel
theorem d4_43 : decode jdk_33_method_47_code 43 = .ok (.iload_n 0, 1) := by decide +kernel
theorem d4_44 : decode jdk_33_method_47_code 44 = .ok (.bipush 8, 2) := by decide +kernel
theorem d4_46 : decode jdk_33_method_47_code 46 = .ok (.iushr, 1) := by decide +kernel
theorem d4_47 : decode jdk_33_method_47_code 47 = .ok (.istore_n 0, 1) := by decide +kernel
theorem d4_48 : decode jdk_33_method_47_code 48 = .ok (.iload_n 0, 1) := by decide +kernel
theorem d4_49 : decode jdk_33_method_47_code 49 = .ok (.bipush 16, 2) := by decide +kernel
theorem d4_51 : decode jdk_33_method_47_code 51 = .ok (.if_icmp .lt 10, 3) := by decide +kernel
theorem d4_54 : decode jdk_33_method_47_code 54 = .ok (.iinc 1 (-4), 3) := by decide +kernel
theorem d4_57 : decode jdk_33_method_47_code 57 = .ok (.iload_n 0, 1) := by decide +kernel
theorem d4_58 : decode jdk_33_method_47_code 58 = .ok (.iconst 4, 1) := by decide +kernel
theorem d4_59 : decode jdk_33_method_47_code 59 = .ok (.iushr, 1) := by decide +kernel
theorem d4_60 : decode jdk_33_method_47_code 60 = .ok (.istore_n 0, 1) := by decide +kernel
theorem d4_61 : decode jdk_33_method_47_code 61 = .ok (.iload_n 0, 1) := by decide +kernel
theorem d4_62 : decode jdk_33_method_47_code 62 = .ok (.iconst 4, 1) := by decide +kernel
theorem d4_63 : decode jdk_33_method_47_code 63 = .ok (.if_icmp .lt 10, 3) := by decide +kernel
theorem d4_66 : decode jdk_33_method_47_code 66 = .ok (.iinc 1 (-2), 3) := by decide +kernel
theorem d4_69 : decode jdk_33_method_47_code 69 = .ok (.iload_n 0, 1) := by decide +kernel
theorem d4_70 : decode jdk_33_method_47_code 70 = .ok (.iconst 2, 1) := by decide +kernel
theorem d4_71 : decode jdk_33_method_47_code 71 = .ok (.iushr, 1) := by decide +kernel
theorem d4_72 : decode jdk_33_method_47_code 72 = .ok (.istore_n 0, 1) := by decide +kernel
theorem d4_73 : decode jdk_33_method_47_code 73 = .ok (.iload_n 1, 1) := by decide +kernel
theorem d4_74 : decode jdk_33_method_47_code 74 = .ok (.iload_n 0, 1) := by decide +kernel
theorem d4_75 : decode jdk_33_method_47_code 75 = .ok (.iconst 1, 1) := by decide +kernel
theorem d4_76 : decode jdk_33_method_47_code 76 = .ok (.iushr, 1) := by decide +kernel
theorem d4_77 : decode jdk_33_method_47_code 77 = .ok (.isub, 1) := by decide +kernel
theorem d4_78 : decode jdk_33_method_47_code 78 = .ok (.ireturn, 1) := by decide +kernel
theorem pn_4 : plainFor (⟨"java/lang/Integer", "numberOfLeadingZeros", "(I)I"⟩ : MethodName) = true := by first | exact plainFor_of_name (by first | (simp [plainName, overriddenIn]; done) | decide +kernel) | decide +kernel
theorem pd_1 : parseMethodDescriptor "(I)I" = some ⟨[.int], (some .int)⟩ := by decide +kernel
def own_nlz_j33_l0 (q0 : Int32) : Int32 := if q0 < (65536 : Int32) then q0 else (XT.ushr q0 (16 : Int32))
def own_nlz_j33_l1 (q0 : Int32) : Int32 := if q0 < (65536 : Int32) then (31 : Int32) else ((31 : Int32) + (-16 : Int32))
def own_nlz_j48_l0 (q0 : Int32) : Int32 := if (own_nlz_j33_l0 q0) < (256 : Int32) then (own_nlz_j33_l0 q0) else (XT.ushr (own_nlz_j33_l0 q0) (8 : Int32))
def own_nlz_j48_l1 (q0 : Int32) : Int32 := if (own_nlz_j33_l0 q0) < (256 : Int32) then (own_nlz_j33_l1 q0) else ((own_nlz_j33_l1 q0) + (-8 : Int32))
def own_nlz_j61_l0 (q0 : Int32) : Int32 := if (own_nlz_j48_l0 q0) < (16 : Int32) then (own_nlz_j48_l0 q0) else (XT.ushr (own_nlz_j48_l0 q0) (4 : Int32))
def own_nlz_j61_l1 (q0 : Int32) : Int32 := if (own_nlz_j48_l0 q0) < (16 : Int32) then (own_nlz_j48_l1 q0) else ((own_nlz_j48_l1 q0) + (-4 : Int32))
def own_nlz_j73_l0 (q0 : Int32) : Int32 := if (own_nlz_j61_l0 q0) < (4 : Int32) then (own_nlz_j61_l0 q0) else (XT.ushr (own_nlz_j61_l0 q0) (2 : Int32))
def own_nlz_j73_l1 (q0 : Int32) : Int32 := if (own_nlz_j61_l0 q0) < (4 : Int32) then (own_nlz_j61_l1 q0) else ((own_nlz_j61_l1 q0) + (-2 : Int32))
def own_nlz (q0 : Int32) : Int32 := if 0 < q0 then ((own_nlz_j73_l1 q0) - (XT.ushr (own_nlz_j73_l0 q0) (1 : Int32))) else if q0 = 0 then (32 : Int32) else (0 : Int32)
set_option maxRecDepth 65536 in
set_option maxHeartbeats 40000000 in
theorem rm_nlz (l : Launch) (Z : State) (a0 : Array Value) (hw : ∀ d ∈ tables_1, d.before a0 Z = true) (q0 : Int32)  (h0 : Heap)   :
    OwCon l (⟨"java/lang/Integer", "numberOfLeadingZeros", "(I)I"⟩ : MethodName) jdk_33_method_47_code 2 (some .int) ({ frames := 0, cells := 0, slots := 0, locals := 0 } : Room) Z #[(.int q0)] h0 (OwP (some (.int (own_nlz q0))) h0) := by
  refine OwCon.of pn_4 (Ls := #[.val (.int q0), .unset]) (fun m => by first | (simp [entryFrame, mkF, argsToLocals, Value.category]; done) | rfl) ?_
  intro p e s m below meth c s₁ C X0 e0
  refine ow_iloadN C X0 d4_0 rfl (pc' := 1) rfl ?_
  refine ow_if_gt C X0 d4_1 (pcT := 15) (pc' := 4) (by decide) (by decide) rfl (fun b1 => ?_) (fun b1 => ?_)
  · refine ow_bipush (31 : Int32) C X0 d4_15 (by decide) (pc' := 17) rfl ?_
    refine ow_istoreN C X0 d4_17 (Ls' := #[.val (.int q0), .val (.int (31 : Int32))]) rfl (pc' := 18) rfl ?_
    refine ow_iloadN C X0 d4_18 rfl (pc' := 19) rfl ?_
    refine ow_ldcW C X0 (hw _ (List.mem_of_getElem? (i := 63) rfl)) d4_19 (pc' := 22) rfl ?_
    refine ow_join X0 e0 (f' := (mkF m 33 #[.val (.int (own_nlz_j33_l0 q0)), .val (.int (own_nlz_j33_l1 q0))] [])) ?_ (fun T1 X1 e1 => ?_)
    · intro D1 jk1
      refine ow_icmp_lt C X0 d4_22 (pcT := 33) (pc' := 25) (by decide) (by decide) rfl (fun b22 => ?_) (fun b22 => ?_)
      · have jq := jk1 s₁ X0 e0
        rw [show (own_nlz_j33_l0 q0) = q0 from by unfold own_nlz_j33_l0; (try rw [if_pos b22]); (try rfl)] at jq
        rw [show (own_nlz_j33_l1 q0) = (31 : Int32) from by unfold own_nlz_j33_l1; (try rw [if_pos b22]); (try rfl)] at jq
        exact jq
      · refine ow_iinc (-16 : Int32) C X0 d4_25 (by decide) rfl (Ls' := #[.val (.int q0), .val (.int ((31 : Int32) + (-16 : Int32)))]) rfl (pc' := 28) rfl ?_
        refine ow_iloadN C X0 d4_28 rfl (pc' := 29) rfl ?_
        refine ow_bipush (16 : Int32) C X0 d4_29 (by decide) (pc' := 31) rfl ?_
        refine ow_iushr C X0 d4_31 (pc' := 32) rfl ?_
        refine ow_istoreN C X0 d4_32 (Ls' := #[.val (.int (XT.ushr q0 (16 : Int32))), .val (.int ((31 : Int32) + (-16 : Int32)))]) rfl (pc' := 33) rfl ?_
        have jq := jk1 s₁ X0 e0
        rw [show (own_nlz_j33_l0 q0) = (XT.ushr q0 (16 : Int32)) from by unfold own_nlz_j33_l0; (try rw [if_neg b22]); (try rfl)] at jq
        rw [show (own_nlz_j33_l1 q0) = ((31 : Int32) + (-16 : Int32)) from by unfold own_nlz_j33_l1; (try rw [if_neg b22]); (try rfl)] at jq
        exact jq
    refine ow_iloadN C X1 d4_33 rfl (pc' := 34) rfl ?_
    refine ow_sipush (256 : Int32) C X1 d4_34 (by decide) (pc' := 37) rfl ?_
    refine ow_join X1 e1 (f' := (mkF m 48 #[.val (.int (own_nlz_j48_l0 q0)), .val (.int (own_nlz_j48_l1 q0))] [])) ?_ (fun T2 X2 e2 => ?_)
    · intro D2 jk2
      refine ow_icmp_lt C X1 d4_37 (pcT := 48) (pc' := 40) (by decide) (by decide) rfl (fun b37 => ?_) (fun b37 => ?_)
      · have jq := jk2 T1 X1 e1
        rw [show (own_nlz_j48_l0 q0) = (own_nlz_j33_l0 q0) from by unfold own_nlz_j48_l0; (try rw [if_pos b37]); (try rfl)] at jq
        rw [show (own_nlz_j48_l1 q0) = (own_nlz_j33_l1 q0) from by unfold own_nlz_j48_l1; (try rw [if_pos b37]); (try rfl)] at jq
        exact jq
      · refine ow_iinc (-8 : Int32) C X1 d4_40 (by decide) rfl (Ls' := #[.val (.int (own_nlz_j33_l0 q0)), .val (.int ((own_nlz_j33_l1 q0) + (-8 : Int32)))]) rfl (pc' := 43) rfl ?_
        refine ow_iloadN C X1 d4_43 rfl (pc' := 44) rfl ?_
        refine ow_bipush (8 : Int32) C X1 d4_44 (by decide) (pc' := 46) rfl ?_
        refine ow_iushr C X1 d4_46 (pc' := 47) rfl ?_
        refine ow_istoreN C X1 d4_47 (Ls' := #[.val (.int (XT.ushr (own_nlz_j33_l0 q0) (8 : Int32))), .val (.int ((own_nlz_j33_l1 q0) + (-8 : Int32)))]) rfl (pc' := 48) rfl ?_
        have jq := jk2 T1 X1 e1
        rw [show (own_nlz_j48_l0 q0) = (XT.ushr (own_nlz_j33_l0 q0) (8 : Int32)) from by unfold own_nlz_j48_l0; (try rw [if_neg b37]); (try rfl)] at jq
        rw [show (own_nlz_j48_l1 q0) = ((own_nlz_j33_l1 q0) + (-8 : Int32)) from by unfold own_nlz_j48_l1; (try rw [if_neg b37]); (try rfl)] at jq
        exact jq
    refine ow_iloadN C X2 d4_48 rfl (pc' := 49) rfl ?_
    refine ow_bipush (16 : Int32) C X2 d4_49 (by decide) (pc' := 51) rfl ?_
    refine ow_join X2 e2 (f' := (mkF m 61 #[.val (.int (own_nlz_j61_l0 q0)), .val (.int (own_nlz_j61_l1 q0))] [])) ?_ (fun T3 X3 e3 => ?_)
    · intro D3 jk3
      refine ow_icmp_lt C X2 d4_51 (pcT := 61) (pc' := 54) (by decide) (by decide) rfl (fun b51 => ?_) (fun b51 => ?_)
      · have jq := jk3 T2 X2 e2
        rw [show (own_nlz_j61_l0 q0) = (own_nlz_j48_l0 q0) from by unfold own_nlz_j61_l0; (try rw [if_pos b51]); (try rfl)] at jq
        rw [show (own_nlz_j61_l1 q0) = (own_nlz_j48_l1 q0) from by unfold own_nlz_j61_l1; (try rw [if_pos b51]); (try rfl)] at jq
        exact jq
      · refine ow_iinc (-4 : Int32) C X2 d4_54 (by decide) rfl (Ls' := #[.val (.int (own_nlz_j48_l0 q0)), .val (.int ((own_nlz_j48_l1 q0) + (-4 : Int32)))]) rfl (pc' := 57) rfl ?_
        refine ow_iloadN C X2 d4_57 rfl (pc' := 58) rfl ?_
        refine ow_iconst (4 : Int32) C X2 d4_58 (by decide) (pc' := 59) rfl ?_
        refine ow_iushr C X2 d4_59 (pc' := 60) rfl ?_
        refine ow_istoreN C X2 d4_60 (Ls' := #[.val (.int (XT.ushr (own_nlz_j48_l0 q0) (4 : Int32))), .val (.int ((own_nlz_j48_l1 q0) + (-4 : Int32)))]) rfl (pc' := 61) rfl ?_
        have jq := jk3 T2 X2 e2
        rw [show (own_nlz_j61_l0 q0) = (XT.ushr (own_nlz_j48_l0 q0) (4 : Int32)) from by unfold own_nlz_j61_l0; (try rw [if_neg b51]); (try rfl)] at jq
        rw [show (own_nlz_j61_l1 q0) = ((own_nlz_j48_l1 q0) + (-4 : Int32)) from by unfold own_nlz_j61_l1; (try rw [if_neg b51]); (try rfl)] at jq
        exact jq
    refine ow_iloadN C X3 d4_61 rfl (pc' := 62) rfl ?_
    refine ow_iconst (4 : Int32) C X3 d4_62 (by decide) (pc' := 63) rfl ?_
    refine ow_join X3 e3 (f' := (mkF m 73 #[.val (.int (own_nlz_j73_l0 q0)), .val (.int (own_nlz_j73_l1 q0))] [])) ?_ (fun T4 X4 e4 => ?_)
    · intro D4 jk4
      refine ow_icmp_lt C X3 d4_63 (pcT := 73) (pc' := 66) (by decide) (by decide) rfl (fun b63 => ?_) (fun b63 => ?_)
      · have jq := jk4 T3 X3 e3
        rw [show (own_nlz_j73_l0 q0) = (own_nlz_j61_l0 q0) from by unfold own_nlz_j73_l0; (try rw [if_pos b63]); (try rfl)] at jq
        rw [show (own_nlz_j73_l1 q0) = (own_nlz_j61_l1 q0) from by unfold own_nlz_j73_l1; (try rw [if_pos b63]); (try rfl)] at jq
        exact jq
      · refine ow_iinc (-2 : Int32) C X3 d4_66 (by decide) rfl (Ls' := #[.val (.int (own_nlz_j61_l0 q0)), .val (.int ((own_nlz_j61_l1 q0) + (-2 : Int32)))]) rfl (pc' := 69) rfl ?_
        refine ow_iloadN C X3 d4_69 rfl (pc' := 70) rfl ?_
        refine ow_iconst (2 : Int32) C X3 d4_70 (by decide) (pc' := 71) rfl ?_
        refine ow_iushr C X3 d4_71 (pc' := 72) rfl ?_
        refine ow_istoreN C X3 d4_72 (Ls' := #[.val (.int (XT.ushr (own_nlz_j61_l0 q0) (2 : Int32))), .val (.int ((own_nlz_j61_l1 q0) + (-2 : Int32)))]) rfl (pc' := 73) rfl ?_
        have jq := jk4 T3 X3 e3
        rw [show (own_nlz_j73_l0 q0) = (XT.ushr (own_nlz_j61_l0 q0) (2 : Int32)) from by unfold own_nlz_j73_l0; (try rw [if_neg b63]); (try rfl)] at jq
        rw [show (own_nlz_j73_l1 q0) = ((own_nlz_j61_l1 q0) + (-2 : Int32)) from by unfold own_nlz_j73_l1; (try rw [if_neg b63]); (try rfl)] at jq
        exact jq
    refine ow_iloadN C X4 d4_73 rfl (pc' := 74) rfl ?_
    refine ow_iloadN C X4 d4_74 rfl (pc' := 75) rfl ?_
    refine ow_iconst (1 : Int32) C X4 d4_75 (by decide) (pc' := 76) rfl ?_
    refine ow_iushr C X4 d4_76 (pc' := 77) rfl ?_
    refine ow_isub C X4 d4_77 (pc' := 78) rfl ?_
    exact ow_retI C X4 d4_78 (Nat.le_of_ble_eq_true rfl) (Nat.le_of_ble_eq_true rfl) ⟨(show some (Value.int ((own_nlz_j73_l1 q0) - (XT.ushr (own_nlz_j73_l0 q0) (1 : Int32)))) = some (Value.int (own_nlz q0)) from congrArg (fun z => some (Value.int z)) (by unfold own_nlz; rw [if_pos b1])), rfl, e4⟩
  · refine ow_iloadN C X0 d4_4 rfl (pc' := 5) rfl ?_
    refine ow_if_ne C X0 d4_5 (pcT := 13) (pc' := 8) (by decide) (by decide) rfl (fun b5 => ?_) (fun b5 => ?_)
    · refine ow_iconst (0 : Int32) C X0 d4_13 (by decide) (pc' := 14) rfl ?_
      exact ow_retI C X0 d4_14 (Nat.le_of_ble_eq_true rfl) (Nat.le_of_ble_eq_true rfl) ⟨(show some (Value.int (0 : Int32)) = some (Value.int (own_nlz q0)) from congrArg (fun z => some (Value.int z)) (by unfold own_nlz; rw [if_neg b1, if_neg b5])), rfl, e0⟩
    · refine ow_bipush (32 : Int32) C X0 d4_8 (by decide) (pc' := 10) rfl ?_
      refine ow_goto C X0 d4_10 (pcT := 14) (by decide) (by decide) ?_
      exact ow_retI C X0 d4_14 (Nat.le_of_ble_eq_true rfl) (Nat.le_of_ble_eq_true rfl) ⟨(show some (Value.int (32 : Int32)) = some (Value.int (own_nlz q0)) from congrArg (fun z => some (Value.int z)) (by unfold own_nlz; rw [if_neg b1, if_pos b5])), rfl, e0⟩
theorem d7_0 : decode prog_38_method_3_code 0 = .ok (.aload_n 0, 1) := by decide +kernel
theorem d7_1 : decode prog_38_method_3_code 1 = .ok (.getfield 49, 3) := by decide +kernel
theorem d7_4 : decode prog_38_method_3_code 4 = .ok (.lreturn, 1) := by decide +kernel
theorem pn_7 : plainFor (⟨"com/example/quillon/quillon/exploration/IntList", "size", "()J"⟩ : MethodName) = true := by first | exact plainFor_of_name (by first | (simp [plainName, overriddenIn]; done) | decide +kernel) | decide +kernel
theorem pd_2 : parseMethodDescriptor "()J" = some ⟨[], (some .long)⟩ := by decide +kernel
def own_size (u_size_o0 : Int64) : Int64 := u_size_o0
set_option maxRecDepth 65536 in
set_option maxHeartbeats 40000000 in
theorem rm_size (l : Launch) (Z : State) (a0 : Array Value) (hw : ∀ d ∈ tables_1, d.before a0 Z = true) (o0 : Addr) (u_size_o0 : Int64) (h0 : Heap)  (F_size_o0 : Fld Z h0 o0 "com/example/quillon/quillon/exploration/IntList" "size" "J" (.long u_size_o0)) :
    OwCon l (⟨"com/example/quillon/quillon/exploration/IntList", "size", "()J"⟩ : MethodName) prog_38_method_3_code 1 (some .long) ({ frames := 0, cells := 0, slots := 0, locals := 0 } : Room) Z #[(.ref o0)] h0 (OwP (some (.long (own_size u_size_o0))) h0) := by
  refine OwCon.of pn_7 (Ls := #[.val (.ref o0)]) (fun m => by first | (simp [entryFrame, mkF, argsToLocals, Value.category]; done) | rfl) ?_
  intro p e s m below meth c s₁ C X0 e0
  refine ow_aloadN C X0 d7_0 rfl rfl (pc' := 1) rfl ?_
  refine ow_getF C X0 e0 (hw _ (List.mem_of_getElem? (i := 36) rfl)) F_size_o0 d7_1 (pc' := 4) rfl (fun T5 X5 e5 => ?_)
  exact ow_retJ C X5 d7_4 (Nat.le_of_ble_eq_true rfl) (Nat.le_of_ble_eq_true rfl) ⟨(show some (Value.long u_size_o0) = some (Value.long (own_size u_size_o0)) from congrArg (fun z => some (Value.long z)) rfl), rfl, e5⟩
theorem d11_0 : decode prog_38_method_13_code 0 = .ok (.lload_n 1, 1) := by decide +kernel
theorem d11_1 : decode prog_38_method_13_code 1 = .ok (.aload_n 0, 1) := by decide +kernel
theorem d11_2 : decode prog_38_method_13_code 2 = .ok (.getfield 46, 3) := by decide +kernel
theorem d11_5 : decode prog_38_method_13_code 5 = .ok (.i2l, 1) := by decide +kernel
theorem d11_6 : decode prog_38_method_13_code 6 = .ok (.land, 1) := by decide +kernel
theorem d11_7 : decode prog_38_method_13_code 7 = .ok (.l2i, 1) := by decide +kernel
theorem d11_8 : decode prog_38_method_13_code 8 = .ok (.aload_n 0, 1) := by decide +kernel
theorem d11_9 : decode prog_38_method_13_code 9 = .ok (.getfield 27, 3) := by decide +kernel
theorem d11_12 : decode prog_38_method_13_code 12 = .ok (.imul, 1) := by decide +kernel
theorem d11_13 : decode prog_38_method_13_code 13 = .ok (.ireturn, 1) := by decide +kernel
theorem pn_11 : plainFor (⟨"com/example/quillon/quillon/exploration/IntList", "offset", "(J)I"⟩ : MethodName) = true := by first | exact plainFor_of_name (by first | (simp [plainName, overriddenIn]; done) | decide +kernel) | decide +kernel
theorem pd_3 : parseMethodDescriptor "(J)I" = some ⟨[.long], (some .int)⟩ := by decide +kernel
def own_off (q1 : Int64) (u_recordMask_o0 : Int32) (u_width_o0 : Int32) : Int32 := ((q1 &&& u_recordMask_o0.toInt64).toInt32 * u_width_o0)
set_option maxRecDepth 65536 in
set_option maxHeartbeats 40000000 in
theorem rm_off (l : Launch) (Z : State) (a0 : Array Value) (hw : ∀ d ∈ tables_1, d.before a0 Z = true) (o0 : Addr) (q1 : Int64) (u_recordMask_o0 : Int32) (u_width_o0 : Int32) (h0 : Heap)  (F_recordMask_o0 : Fld Z h0 o0 "com/example/quillon/quillon/exploration/IntList" "recordMask" "I" (.int u_recordMask_o0)) (F_width_o0 : Fld Z h0 o0 "com/example/quillon/quillon/exploration/IntList" "width" "I" (.int u_width_o0)) :
    OwCon l (⟨"com/example/quillon/quillon/exploration/IntList", "offset", "(J)I"⟩ : MethodName) prog_38_method_13_code 3 (some .int) ({ frames := 0, cells := 0, slots := 0, locals := 0 } : Room) Z #[(.ref o0), (.long q1)] h0 (OwP (some (.int (own_off q1 u_recordMask_o0 u_width_o0))) h0) := by
  refine OwCon.of pn_11 (Ls := #[.val (.ref o0), .val (.long q1), .second]) (fun m => by first | (simp [entryFrame, mkF, argsToLocals, Value.category]; done) | rfl) ?_
  intro p e s m below meth c s₁ C X0 e0
  refine ow_lloadN C X0 d11_0 rfl (pc' := 1) rfl ?_
  refine ow_aloadN C X0 d11_1 rfl rfl (pc' := 2) rfl ?_
  refine ow_getF C X0 e0 (hw _ (List.mem_of_getElem? (i := 29) rfl)) F_recordMask_o0 d11_2 (pc' := 5) rfl (fun T6 X6 e6 => ?_)
  refine ow_i2l C X6 d11_5 (pc' := 6) rfl ?_
  refine ow_land C X6 d11_6 (pc' := 7) rfl ?_
  refine ow_l2i C X6 d11_7 (pc' := 8) rfl ?_
  refine ow_aloadN C X6 d11_8 rfl rfl (pc' := 9) rfl ?_
  refine ow_getF C X6 e6 (hw _ (List.mem_of_getElem? (i := 18) rfl)) F_width_o0 d11_9 (pc' := 12) rfl (fun T7 X7 e7 => ?_)
  refine ow_imul C X7 d11_12 (pc' := 13) rfl ?_
  exact ow_retI C X7 d11_13 (Nat.le_of_ble_eq_true rfl) (Nat.le_of_ble_eq_true rfl) ⟨(show some (Value.int ((q1 &&& u_recordMask_o0.toInt64).toInt32 * u_width_o0)) = some (Value.int (own_off q1 u_recordMask_o0 u_width_o0)) from congrArg (fun z => some (Value.int z)) rfl), rfl, e7⟩
theorem own_rb {W : Nat} {w rb rm : Int32} (h : OwW W w rb rm) : own_max 0 (14 - (32 - own_nlz (w - 1))) = rb := by rcases h with ⟨-, rfl, rfl, -⟩ | ⟨-, rfl, rfl, -⟩ <;> decide +kernel
theorem own_offW {W n : Nat} {w rb rm : Int32} (h : OwW W w rb rm) (hn : n < 4) : own_off (Int64.ofNat n) rm w = Int32.ofNat (n * W) := by
  unfold own_off
  rcases h with ⟨rfl, rfl, -, rfl⟩ | ⟨rfl, rfl, -, rfl⟩
  · exact (own_of_ n hn).1
  · exact (own_of_ n hn).2
/-- an IntList at o that holds n records: its fields, its one page (none yet: pv null) -/
def OwL (Z : State) (h : Heap) (n0 : Nat) (o pp : Addr) (w rb rm : Int32) (n : Nat) (pv : Value) : Prop := Exa Z h o "com/example/quillon/quillon/exploration/IntList" ∧ Fld Z h o "com/example/quillon/quillon/exploration/IntList" "width" "I" (.int w) ∧ Fld Z h o "com/example/quillon/quillon/exploration/IntList" "recordBits" "I" (.int rb) ∧ Fld Z h o "com/example/quillon/quillon/exploration/IntList" "recordMask" "I" (.int rm) ∧ Fld Z h o "com/example/quillon/quillon/exploration/IntList" "pages" "[[I" (.ref pp) ∧ Fld Z h o "com/example/quillon/quillon/exploration/IntList" "size" "J" (.long (Int64.ofNat n)) ∧ OwA Z h pp (.array .int) 1 (fun _ => pv) ∧ OwOv Z h pp .int "[I" ∧ n0 ≤ o ∧ o < pp
theorem d2_0 : decode prog_38_method_2_code 0 = .ok (.aload_n 0, 1) := by decide +kernel
theorem d2_1 : decode prog_38_method_2_code 1 = .ok (.invokespecial 7, 3) := by decide +kernel
theorem d2_4 : decode prog_38_method_2_code 4 = .ok (.aload_n 0, 1) := by decide +kernel
theorem d2_5 : decode prog_38_method_2_code 5 = .ok (.iconst 1, 1) := by decide +kernel
theorem d2_6 : decode prog_38_method_2_code 6 = .ok (.anewarray 12, 3) := by decide +kernel
theorem d2_9 : decode prog_38_method_2_code 9 = .ok (.putfield 14, 3) := by decide +kernel
theorem d2_12 : decode prog_38_method_2_code 12 = .ok (.iload_n 1, 1) := by decide +kernel
theorem d2_13 : decode prog_38_method_2_code 13 = .ok (.iconst 1, 1) := by decide +kernel
theorem d2_14 : decode prog_38_method_2_code 14 = .ok (.if_icmp .ge 17, 3) := by decide +kernel
theorem d2_17 : decode prog_38_method_2_code 17 = .ok (.new 18, 3) := by decide +kernel
theorem d2_20 : decode prog_38_method_2_code 20 = .ok (.dup, 1) := by decide +kernel
theorem d2_21 : decode prog_38_method_2_code 21 = .ok (.iload_n 1, 1) := by decide +kernel
theorem d2_22 : decode prog_38_method_2_code 22 = .ok (.invokedynamic 20, 5) := by decide +kernel
theorem d2_27 : decode prog_38_method_2_code 27 = .ok (.invokespecial 24, 3) := by decide +kernel
theorem d2_30 : decode prog_38_method_2_code 30 = .ok (.athrow, 1) := by decide +kernel
theorem d2_31 : decode prog_38_method_2_code 31 = .ok (.aload_n 0, 1) := by decide +kernel
theorem d2_32 : decode prog_38_method_2_code 32 = .ok (.iload_n 1, 1) := by decide +kernel
theorem d2_33 : decode prog_38_method_2_code 33 = .ok (.putfield 27, 3) := by decide +kernel
theorem d2_36 : decode prog_38_method_2_code 36 = .ok (.aload_n 0, 1) := by decide +kernel
theorem d2_37 : decode prog_38_method_2_code 37 = .ok (.iconst 0, 1) := by decide +kernel
theorem d2_38 : decode prog_38_method_2_code 38 = .ok (.bipush 14, 2) := by decide +kernel
theorem d2_40 : decode prog_38_method_2_code 40 = .ok (.bipush 32, 2) := by decide +kernel
theorem d2_42 : decode prog_38_method_2_code 42 = .ok (.iload_n 1, 1) := by decide +kernel
theorem d2_43 : decode prog_38_method_2_code 43 = .ok (.iconst 1, 1) := by decide +kernel
theorem d2_44 : decode prog_38_method_2_code 44 = .ok (.isub, 1) := by decide +kernel
theorem d2_45 : decode prog_38_method_2_code 45 = .ok (.invokestatic 31, 3) := by decide +kernel
theorem d2_48 : decode prog_38_method_2_code 48 = .ok (.isub, 1) := by decide +kernel
theorem d2_49 : decode prog_38_method_2_code 49 = .ok (.isub, 1) := by decide +kernel
theorem d2_50 : decode prog_38_method_2_code 50 = .ok (.invokestatic 37, 3) := by decide +kernel
theorem d2_53 : decode prog_38_method_2_code 53 = .ok (.putfield 43, 3) := by decide +kernel
theorem d2_56 : decode prog_38_method_2_code 56 = .ok (.aload_n 0, 1) := by decide +kernel
theorem d2_57 : decode prog_38_method_2_code 57 = .ok (.iconst 1, 1) := by decide +kernel
theorem d2_58 : decode prog_38_method_2_code 58 = .ok (.aload_n 0, 1) := by decide +kernel
theorem d2_59 : decode prog_38_method_2_code 59 = .ok (.getfield 43, 3) := by decide +kernel
theorem d2_62 : decode prog_38_method_2_code 62 = .ok (.ishl, 1) := by decide +kernel
theorem d2_63 : decode prog_38_method_2_code 63 = .ok (.iconst 1, 1) := by decide +kernel
theorem d2_64 : decode prog_38_method_2_code 64 = .ok (.isub, 1) := by decide +kernel
theorem d2_65 : decode prog_38_method_2_code 65 = .ok (.putfield 46, 3) := by decide +kernel
theorem d2_68 : decode prog_38_method_2_code 68 = .ok (.return_, 1) := by decide +kernel
theorem pn_2 : plainFor (⟨"com/example/quillon/quillon/exploration/IntList", "<init>", "(I)V"⟩ : MethodName) = true := by first | exact plainFor_of_name (by first | (simp [plainName, overriddenIn]; done) | decide +kernel) | decide +kernel
theorem pd_4 : parseMethodDescriptor "(I)V" = some ⟨[.int], none⟩ := by decide +kernel
set_option maxRecDepth 65536 in
set_option maxHeartbeats 40000000 in
theorem rm_init (l : Launch) (Z : State) (a0 : Array Value) (hw : ∀ d ∈ tables_1, d.before a0 Z = true) (o : Addr) (W : Nat) (w rb rm : Int32) (hW : OwW W w rb rm) (u1 u2 u3 u4 : Value) (h0 : Heap) (n0 : Nat) (Z0 : n0 ≤ h0.size) (E : Exa Z h0 o "com/example/quillon/quillon/exploration/IntList") (go : n0 ≤ o) (F1 : Fld Z h0 o "com/example/quillon/quillon/exploration/IntList" "width" "I" u1) (F2 : Fld Z h0 o "com/example/quillon/quillon/exploration/IntList" "recordBits" "I" u2) (F3 : Fld Z h0 o "com/example/quillon/quillon/exploration/IntList" "recordMask" "I" u3) (F4 : Fld Z h0 o "com/example/quillon/quillon/exploration/IntList" "pages" "[[I" u4) (F5 : Fld Z h0 o "com/example/quillon/quillon/exploration/IntList" "size" "J" (.long (0 : Int64))) :
    OwCon l (⟨"com/example/quillon/quillon/exploration/IntList", "<init>", "(I)V"⟩ : MethodName) prog_38_method_2_code 2 none ({ frames := 1, cells := 1, slots := 1, locals := 17 } : Room) Z #[(.ref o), (.int w)] h0 (fun v h L => v = none ∧ Fr n0 L ∧ Keep h0 h [o] ∧ ∃ pp, OwL Z h n0 o pp w rb rm 0 .null) := by
  refine OwCon.of pn_2 (Ls := #[.val (.ref o), .val (.int w)]) (fun m => by first | (simp [entryFrame, mkF, argsToLocals, Value.category]; done) | rfl) ?_
  intro p e s m below meth c s₁ C X0 e0
  refine ow_aloadN C X0 d2_0 rfl rfl (pc' := 1) rfl ?_
  refine ow_initO C X0 e0 (hw _ (List.mem_of_getElem? (i := 11) rfl)) (hw _ (List.mem_of_getElem? (i := 12) rfl)) (hw _ (List.mem_of_getElem? (i := 13) rfl)) rfl d2_1 (Nat.le_of_ble_eq_true rfl) (Nat.le_of_ble_eq_true rfl) (pc' := 4) rfl (fun T8 X8 e8 => ?_)
  refine ow_aloadN C X8 d2_4 rfl rfl (pc' := 5) rfl ?_
  refine ow_iconst (1 : Int32) C X8 d2_5 (by decide) (pc' := 6) rfl ?_
  refine ow_anewA C X8 e8 (ty := .int) (ad := "[[I") (by decide) (by decide) (hw _ (List.mem_of_getElem? (i := 14) rfl)) (hw _ (List.mem_of_getElem? (i := 15) rfl)) d2_6 (N := 1) (cap := 1) (by decide) (by decide) (Nat.le_of_ble_eq_true rfl) (Nat.le_of_ble_eq_true rfl) (Nat.le_of_ble_eq_true rfl) (Nat.le_of_ble_eq_true rfl) (pc' := 9) rfl (fun T9 h9 a9 g9 X9 e9 Ex9 A9 Ea9 Ov9 => ?_)
  have lq9_o : o < a9 := Nat.lt_of_lt_of_le E.lt (Nat.le_of_eq g9.symm)
  have E9_0 := E.ext Ex9
  have F9_1 := F1.ext Ex9
  have F9_2 := F2.ext Ex9
  have F9_3 := F3.ext Ex9
  have F9_4 := F4.ext Ex9
  have F9_5 := F5.ext Ex9
  have Gh9 : h0.size ≤ a9 := Nat.le_trans (Keep.refl h0 [o]).1 (Nat.le_of_eq g9.symm)
  have K9 : Keep h0 h9 [o] := (Keep.refl h0 [o]).ext Ex9
  have Ge9 : n0 ≤ a9 := Nat.le_trans Z0 (Nat.le_of_eq g9.symm)
  have Z9 : n0 ≤ h9.size := Nat.le_trans Z0 Ex9.1
  refine ow_putF C X9 e9 (hw _ (List.mem_of_getElem? (i := 16) rfl)) F9_4 E9_0 (Or.inl (hw _ (List.mem_of_getElem? (i := 17) rfl))) (hw _ (List.mem_of_getElem? (i := 6) rfl)) (ty := (.array (.array .int))) (by decide) rfl rfl d2_9 (pc' := 12) rfl (fun T10 h10 X10 e10 W10 => ?_)
  have E10_0 := E9_0.wr W10
  have F10_1 := F9_1.other W10 (Or.inr (slot_ne (Or.inr (hw _ (List.mem_of_getElem? (i := 19) rfl))) (Or.inl (hw _ (List.mem_of_getElem? (i := 17) rfl))) (by decide) (t := .int) (t' := (.array (.array .int))) (by decide) (by decide)))
  have F10_2 := F9_2.other W10 (Or.inr (slot_ne (Or.inr (hw _ (List.mem_of_getElem? (i := 28) rfl))) (Or.inl (hw _ (List.mem_of_getElem? (i := 17) rfl))) (by decide) (t := .int) (t' := (.array (.array .int))) (by decide) (by decide)))
  have F10_3 := F9_3.other W10 (Or.inr (slot_ne (Or.inr (hw _ (List.mem_of_getElem? (i := 30) rfl))) (Or.inl (hw _ (List.mem_of_getElem? (i := 17) rfl))) (by decide) (t := .int) (t' := (.array (.array .int))) (by decide) (by decide)))
  have F10_4 := F9_4.same W10
  have F10_5 := F9_5.other W10 (Or.inr (slot_ne (Or.inl (hw _ (List.mem_of_getElem? (i := 37) rfl))) (Or.inl (hw _ (List.mem_of_getElem? (i := 17) rfl))) (by decide) (t := .long) (t' := (.array (.array .int))) (by decide) (by decide)))
  have V10_6 := Ov9.wr W10
  have A10_a9 := A9.other W10 (Ne.symm (Nat.ne_of_lt lq9_o))
  have K10 : Keep h0 h10 [o] := K9.wr W10 (Or.inl (List.mem_singleton.mpr rfl))
  have N10 := Fr.snoc X10 (Fr.nil n0) go
  have Z10 : n0 ≤ h10.size := by rw [W10.size]; exact Z9
  refine ow_iloadN C X10 d2_12 rfl (pc' := 13) rfl ?_
  refine ow_iconst (1 : Int32) C X10 d2_13 (by decide) (pc' := 14) rfl ?_
  refine ow_icmp_ge C X10 d2_14 (pcT := 31) (pc' := 17) (by decide) (by decide) rfl (fun _ => ?_) (fun bq => absurd bq (own_w1 hW))
  refine ow_aloadN C X10 d2_31 rfl rfl (pc' := 32) rfl ?_
  refine ow_iloadN C X10 d2_32 rfl (pc' := 33) rfl ?_
  refine ow_putF C X10 e10 (hw _ (List.mem_of_getElem? (i := 18) rfl)) F10_1 E10_0 (Or.inr ⟨(hw _ (List.mem_of_getElem? (i := 19) rfl)), rfl, rfl⟩) (hw _ (List.mem_of_getElem? (i := 6) rfl)) (ty := .int) (by decide) rfl rfl d2_33 (pc' := 36) rfl (fun T11 h11 X11 e11 W11 => ?_)
  have E11_0 := E10_0.wr W11
  have F11_1 := F10_1.same W11
  have F11_2 := F10_2.other W11 (Or.inr (slot_ne (Or.inr (hw _ (List.mem_of_getElem? (i := 28) rfl))) (Or.inr (hw _ (List.mem_of_getElem? (i := 19) rfl))) (by decide) (t := .int) (t' := .int) (by decide) (by decide)))
  have F11_3 := F10_3.other W11 (Or.inr (slot_ne (Or.inr (hw _ (List.mem_of_getElem? (i := 30) rfl))) (Or.inr (hw _ (List.mem_of_getElem? (i := 19) rfl))) (by decide) (t := .int) (t' := .int) (by decide) (by decide)))
  have F11_4 := F10_4.other W11 (Or.inr (slot_ne (Or.inl (hw _ (List.mem_of_getElem? (i := 17) rfl))) (Or.inr (hw _ (List.mem_of_getElem? (i := 19) rfl))) (by decide) (t := (.array (.array .int))) (t' := .int) (by decide) (by decide)))
  have F11_5 := F10_5.other W11 (Or.inr (slot_ne (Or.inl (hw _ (List.mem_of_getElem? (i := 37) rfl))) (Or.inr (hw _ (List.mem_of_getElem? (i := 19) rfl))) (by decide) (t := .long) (t' := .int) (by decide) (by decide)))
  have V11_6 := V10_6.wr W11
  have A11_a9 := A10_a9.other W11 (Ne.symm (Nat.ne_of_lt lq9_o))
  have K11 : Keep h0 h11 [o] := K10.wr W11 (Or.inl (List.mem_singleton.mpr rfl))
  have N11 := Fr.snoc X11 N10 go
  have Z11 : n0 ≤ h11.size := by rw [W11.size]; exact Z10
  refine ow_aloadN C X11 d2_36 rfl rfl (pc' := 37) rfl ?_
  refine ow_iconst (0 : Int32) C X11 d2_37 (by decide) (pc' := 38) rfl ?_
  refine ow_bipush (14 : Int32) C X11 d2_38 (by decide) (pc' := 40) rfl ?_
  refine ow_bipush (32 : Int32) C X11 d2_40 (by decide) (pc' := 42) rfl ?_
  refine ow_iloadN C X11 d2_42 rfl (pc' := 43) rfl ?_
  refine ow_iconst (1 : Int32) C X11 d2_43 (by decide) (pc' := 44) rfl ?_
  refine ow_isub C X11 d2_44 (pc' := 45) rfl ?_
  refine ow_callSP C X11 e11 (hw _ (List.mem_of_getElem? (i := 20) rfl)) (hw _ (List.mem_of_getElem? (i := 21) rfl)) (hw _ (List.mem_of_getElem? (i := 22) rfl)) (hw _ (List.mem_of_getElem? (i := 23) rfl)) (by decide) (rm_nlz l Z a0 hw (w - (1 : Int32)) h11) ⟨rfl, rfl⟩ pd_1 rfl (argsL := [(.int (w - (1 : Int32)))]) (rest := [(.int (32 : Int32)), (.int (14 : Int32)), (.int (0 : Int32)), (.ref o)]) rfl rfl d2_45 (Nat.le_of_ble_eq_true rfl) (Nat.le_of_ble_eq_true rfl) (Nat.le_of_ble_eq_true rfl) (Nat.le_of_ble_eq_true rfl) (pc' := 48) rfl (fun T12 X12 e12 => ?_)
  refine ow_isub C X12 d2_48 (pc' := 49) rfl ?_
  refine ow_isub C X12 d2_49 (pc' := 50) rfl ?_
  refine ow_callSP C X12 e12 (hw _ (List.mem_of_getElem? (i := 24) rfl)) (hw _ (List.mem_of_getElem? (i := 25) rfl)) (hw _ (List.mem_of_getElem? (i := 2) rfl)) (hw _ (List.mem_of_getElem? (i := 26) rfl)) (by decide) (rm_max l Z a0 hw (0 : Int32) ((14 : Int32) - ((32 : Int32) - (own_nlz (w - (1 : Int32))))) h11) ⟨rfl, rfl⟩ pd_0 rfl (argsL := [(.int (0 : Int32)), (.int ((14 : Int32) - ((32 : Int32) - (own_nlz (w - (1 : Int32))))))]) (rest := [(.ref o)]) rfl rfl d2_50 (Nat.le_of_ble_eq_true rfl) (Nat.le_of_ble_eq_true rfl) (Nat.le_of_ble_eq_true rfl) (Nat.le_of_ble_eq_true rfl) (pc' := 53) rfl (fun T13 X13 e13 => ?_)
  rw [show (own_max (0 : Int32) ((14 : Int32) - ((32 : Int32) - (own_nlz (w - (1 : Int32)))))) = rb from own_rb hW]
  refine ow_putF C X13 e13 (hw _ (List.mem_of_getElem? (i := 27) rfl)) F11_2 E11_0 (Or.inr ⟨(hw _ (List.mem_of_getElem? (i := 28) rfl)), rfl, rfl⟩) (hw _ (List.mem_of_getElem? (i := 6) rfl)) (ty := .int) (by decide) rfl rfl d2_53 (pc' := 56) rfl (fun T14 h14 X14 e14 W14 => ?_)
  have E14_0 := E11_0.wr W14
  have F14_1 := F11_1.other W14 (Or.inr (slot_ne (Or.inr (hw _ (List.mem_of_getElem? (i := 19) rfl))) (Or.inr (hw _ (List.mem_of_getElem? (i := 28) rfl))) (by decide) (t := .int) (t' := .int) (by decide) (by decide)))
  have F14_2 := F11_2.same W14
  have F14_3 := F11_3.other W14 (Or.inr (slot_ne (Or.inr (hw _ (List.mem_of_getElem? (i := 30) rfl))) (Or.inr (hw _ (List.mem_of_getElem? (i := 28) rfl))) (by decide) (t := .int) (t' := .int) (by decide) (by decide)))
  have F14_4 := F11_4.other W14 (Or.inr (slot_ne (Or.inl (hw _ (List.mem_of_getElem? (i := 17) rfl))) (Or.inr (hw _ (List.mem_of_getElem? (i := 28) rfl))) (by decide) (t := (.array (.array .int))) (t' := .int) (by decide) (by decide)))
  have F14_5 := F11_5.other W14 (Or.inr (slot_ne (Or.inl (hw _ (List.mem_of_getElem? (i := 37) rfl))) (Or.inr (hw _ (List.mem_of_getElem? (i := 28) rfl))) (by decide) (t := .long) (t' := .int) (by decide) (by decide)))
  have V14_6 := V11_6.wr W14
  have A14_a9 := A11_a9.other W14 (Ne.symm (Nat.ne_of_lt lq9_o))
  have K14 : Keep h0 h14 [o] := K11.wr W14 (Or.inl (List.mem_singleton.mpr rfl))
  have N14 := Fr.snoc X14 N11 go
  have Z14 : n0 ≤ h14.size := by rw [W14.size]; exact Z11
  refine ow_aloadN C X14 d2_56 rfl rfl (pc' := 57) rfl ?_
  refine ow_iconst (1 : Int32) C X14 d2_57 (by decide) (pc' := 58) rfl ?_
  refine ow_aloadN C X14 d2_58 rfl rfl (pc' := 59) rfl ?_
  refine ow_getF C X14 e14 (hw _ (List.mem_of_getElem? (i := 27) rfl)) F14_2 d2_59 (pc' := 62) rfl (fun T15 X15 e15 => ?_)
  refine ow_ishl C X15 d2_62 (pc' := 63) rfl ?_
  refine ow_iconst (1 : Int32) C X15 d2_63 (by decide) (pc' := 64) rfl ?_
  refine ow_isub C X15 d2_64 (pc' := 65) rfl ?_
  rw [show ((1 : Int32) <<< (rb &&& 31)) - (1 : Int32) = rm from own_rm hW]
  refine ow_putF C X15 e15 (hw _ (List.mem_of_getElem? (i := 29) rfl)) F14_3 E14_0 (Or.inr ⟨(hw _ (List.mem_of_getElem? (i := 30) rfl)), rfl, rfl⟩) (hw _ (List.mem_of_getElem? (i := 6) rfl)) (ty := .int) (by decide) rfl rfl d2_65 (pc' := 68) rfl (fun T16 h16 X16 e16 W16 => ?_)
  have E16_0 := E14_0.wr W16
  have F16_1 := F14_1.other W16 (Or.inr (slot_ne (Or.inr (hw _ (List.mem_of_getElem? (i := 19) rfl))) (Or.inr (hw _ (List.mem_of_getElem? (i := 30) rfl))) (by decide) (t := .int) (t' := .int) (by decide) (by decide)))
  have F16_2 := F14_2.other W16 (Or.inr (slot_ne (Or.inr (hw _ (List.mem_of_getElem? (i := 28) rfl))) (Or.inr (hw _ (List.mem_of_getElem? (i := 30) rfl))) (by decide) (t := .int) (t' := .int) (by decide) (by decide)))
  have F16_3 := F14_3.same W16
  have F16_4 := F14_4.other W16 (Or.inr (slot_ne (Or.inl (hw _ (List.mem_of_getElem? (i := 17) rfl))) (Or.inr (hw _ (List.mem_of_getElem? (i := 30) rfl))) (by decide) (t := (.array (.array .int))) (t' := .int) (by decide) (by decide)))
  have F16_5 := F14_5.other W16 (Or.inr (slot_ne (Or.inl (hw _ (List.mem_of_getElem? (i := 37) rfl))) (Or.inr (hw _ (List.mem_of_getElem? (i := 30) rfl))) (by decide) (t := .long) (t' := .int) (by decide) (by decide)))
  have V16_6 := V14_6.wr W16
  have A16_a9 := A14_a9.other W16 (Ne.symm (Nat.ne_of_lt lq9_o))
  have K16 : Keep h0 h16 [o] := K14.wr W16 (Or.inl (List.mem_singleton.mpr rfl))
  have N16 := Fr.snoc X16 N14 go
  have Z16 : n0 ≤ h16.size := by rw [W16.size]; exact Z14
  refine ow_retV C X16 d2_68 (Nat.le_of_ble_eq_true rfl) (Nat.le_of_ble_eq_true rfl) ?_
  rw [e16]
  exact ⟨rfl, N16, K16, a9, E16_0, F16_1, F16_2, F16_3, F16_4, F16_5, A16_a9, V16_6, go, (Nat.lt_of_lt_of_le E.lt Gh9)⟩
theorem d6_0 : decode prog_38_method_11_code 0 = .ok (.aload_n 0, 1) := by decide +kernel
theorem d6_1 : decode prog_38_method_11_code 1 = .ok (.iconst 1, 1) := by decide +kernel
theorem d6_2 : decode prog_38_method_11_code 2 = .ok (.anewarray 12, 3) := by decide +kernel
theorem d6_5 : decode prog_38_method_11_code 5 = .ok (.putfield 14, 3) := by decide +kernel
theorem d6_8 : decode prog_38_method_11_code 8 = .ok (.aload_n 0, 1) := by decide +kernel
theorem d6_9 : decode prog_38_method_11_code 9 = .ok (.lconst 0, 1) := by decide +kernel
theorem d6_10 : decode prog_38_method_11_code 10 = .ok (.putfield 49, 3) := by decide +kernel
theorem d6_13 : decode prog_38_method_11_code 13 = .ok (.return_, 1) := by decide +kernel
theorem pn_6 : plainFor (⟨"com/example/quillon/quillon/exploration/IntList", "clear", "()V"⟩ : MethodName) = true := by first | exact plainFor_of_name (by first | (simp [plainName, overriddenIn]; done) | decide +kernel) | decide +kernel
theorem pd_5 : parseMethodDescriptor "()V" = some ⟨[], none⟩ := by decide +kernel
set_option maxRecDepth 65536 in
set_option maxHeartbeats 40000000 in
theorem rm_clear (l : Launch) (Z : State) (a0 : Array Value) (hw : ∀ d ∈ tables_1, d.before a0 Z = true) (o pp : Addr) (w rb rm : Int32) (n : Nat) (pv : Value) (h0 : Heap) (n0 : Nat) (Z0 : n0 ≤ h0.size) (HL : OwL Z h0 n0 o pp w rb rm n pv) :
    OwCon l (⟨"com/example/quillon/quillon/exploration/IntList", "clear", "()V"⟩ : MethodName) prog_38_method_11_code 1 none ({ frames := 0, cells := 1, slots := 1, locals := 0 } : Room) Z #[(.ref o)] h0 (fun v h L => v = none ∧ Fr n0 L ∧ Keep h0 h [o] ∧ ∃ pp, OwL Z h n0 o pp w rb rm 0 .null) := by
  obtain ⟨E, Fw, Fb, Fm, Fp, Fs, Ap, Op, go, gp⟩ := HL
  refine OwCon.of pn_6 (Ls := #[.val (.ref o)]) (fun m => by first | (simp [entryFrame, mkF, argsToLocals, Value.category]; done) | rfl) ?_
  intro p e s m below meth c s₁ C X0 e0
  refine ow_aloadN C X0 d6_0 rfl rfl (pc' := 1) rfl ?_
  refine ow_iconst (1 : Int32) C X0 d6_1 (by decide) (pc' := 2) rfl ?_
  refine ow_anewA C X0 e0 (ty := .int) (ad := "[[I") (by decide) (by decide) (hw _ (List.mem_of_getElem? (i := 14) rfl)) (hw _ (List.mem_of_getElem? (i := 15) rfl)) d6_2 (N := 1) (cap := 1) (by decide) (by decide) (Nat.le_of_ble_eq_true rfl) (Nat.le_of_ble_eq_true rfl) (Nat.le_of_ble_eq_true rfl) (Nat.le_of_ble_eq_true rfl) (pc' := 5) rfl (fun T17 h17 a17 g17 X17 e17 Ex17 A17 Ea17 Ov17 => ?_)
  have lq17_o : o < a17 := Nat.lt_of_lt_of_le E.lt (Nat.le_of_eq g17.symm)
  have lq17_pp : pp < a17 := Nat.lt_of_lt_of_le Ap.lt (Nat.le_of_eq g17.symm)
  have E17_0 := E.ext Ex17
  have F17_1 := Fw.ext Ex17
  have F17_2 := Fb.ext Ex17
  have F17_3 := Fm.ext Ex17
  have F17_4 := Fp.ext Ex17
  have F17_5 := Fs.ext Ex17
  have V17_6 := Op.ext Ex17
  have A17_pp := Ap.ext Ex17
  have Gh17 : h0.size ≤ a17 := Nat.le_trans (Keep.refl h0 [o]).1 (Nat.le_of_eq g17.symm)
  have K17 : Keep h0 h17 [o] := (Keep.refl h0 [o]).ext Ex17
  have Ge17 : n0 ≤ a17 := Nat.le_trans Z0 (Nat.le_of_eq g17.symm)
  have Z17 : n0 ≤ h17.size := Nat.le_trans Z0 Ex17.1
  refine ow_putF C X17 e17 (hw _ (List.mem_of_getElem? (i := 16) rfl)) F17_4 E17_0 (Or.inl (hw _ (List.mem_of_getElem? (i := 17) rfl))) (hw _ (List.mem_of_getElem? (i := 6) rfl)) (ty := (.array (.array .int))) (by decide) rfl rfl d6_5 (pc' := 8) rfl (fun T18 h18 X18 e18 W18 => ?_)
  have E18_0 := E17_0.wr W18
  have F18_1 := F17_1.other W18 (Or.inr (slot_ne (Or.inr (hw _ (List.mem_of_getElem? (i := 19) rfl))) (Or.inl (hw _ (List.mem_of_getElem? (i := 17) rfl))) (by decide) (t := .int) (t' := (.array (.array .int))) (by decide) (by decide)))
  have F18_2 := F17_2.other W18 (Or.inr (slot_ne (Or.inr (hw _ (List.mem_of_getElem? (i := 28) rfl))) (Or.inl (hw _ (List.mem_of_getElem? (i := 17) rfl))) (by decide) (t := .int) (t' := (.array (.array .int))) (by decide) (by decide)))
  have F18_3 := F17_3.other W18 (Or.inr (slot_ne (Or.inr (hw _ (List.mem_of_getElem? (i := 30) rfl))) (Or.inl (hw _ (List.mem_of_getElem? (i := 17) rfl))) (by decide) (t := .int) (t' := (.array (.array .int))) (by decide) (by decide)))
  have F18_4 := F17_4.same W18
  have F18_5 := F17_5.other W18 (Or.inr (slot_ne (Or.inl (hw _ (List.mem_of_getElem? (i := 37) rfl))) (Or.inl (hw _ (List.mem_of_getElem? (i := 17) rfl))) (by decide) (t := .long) (t' := (.array (.array .int))) (by decide) (by decide)))
  have V18_6 := V17_6.wr W18
  have V18_7 := Ov17.wr W18
  have A18_pp := A17_pp.other W18 (Ne.symm (Nat.ne_of_lt gp))
  have A18_a17 := A17.other W18 (Ne.symm (Nat.ne_of_lt lq17_o))
  have K18 : Keep h0 h18 [o] := K17.wr W18 (Or.inl (List.mem_singleton.mpr rfl))
  have N18 := Fr.snoc X18 (Fr.nil n0) go
  have Z18 : n0 ≤ h18.size := by rw [W18.size]; exact Z17
  refine ow_aloadN C X18 d6_8 rfl rfl (pc' := 9) rfl ?_
  refine ow_lconst (0 : Int64) C X18 d6_9 (by decide) (pc' := 10) rfl ?_
  refine ow_putF C X18 e18 (hw _ (List.mem_of_getElem? (i := 36) rfl)) F18_5 E18_0 (Or.inl (hw _ (List.mem_of_getElem? (i := 37) rfl))) (hw _ (List.mem_of_getElem? (i := 6) rfl)) (ty := .long) (by decide) rfl rfl d6_10 (pc' := 13) rfl (fun T19 h19 X19 e19 W19 => ?_)
  have E19_0 := E18_0.wr W19
  have F19_1 := F18_1.other W19 (Or.inr (slot_ne (Or.inr (hw _ (List.mem_of_getElem? (i := 19) rfl))) (Or.inl (hw _ (List.mem_of_getElem? (i := 37) rfl))) (by decide) (t := .int) (t' := .long) (by decide) (by decide)))
  have F19_2 := F18_2.other W19 (Or.inr (slot_ne (Or.inr (hw _ (List.mem_of_getElem? (i := 28) rfl))) (Or.inl (hw _ (List.mem_of_getElem? (i := 37) rfl))) (by decide) (t := .int) (t' := .long) (by decide) (by decide)))
  have F19_3 := F18_3.other W19 (Or.inr (slot_ne (Or.inr (hw _ (List.mem_of_getElem? (i := 30) rfl))) (Or.inl (hw _ (List.mem_of_getElem? (i := 37) rfl))) (by decide) (t := .int) (t' := .long) (by decide) (by decide)))
  have F19_4 := F18_4.other W19 (Or.inr (slot_ne (Or.inl (hw _ (List.mem_of_getElem? (i := 17) rfl))) (Or.inl (hw _ (List.mem_of_getElem? (i := 37) rfl))) (by decide) (t := (.array (.array .int))) (t' := .long) (by decide) (by decide)))
  have F19_5 := F18_5.same W19
  have V19_6 := V18_6.wr W19
  have V19_7 := V18_7.wr W19
  have A19_pp := A18_pp.other W19 (Ne.symm (Nat.ne_of_lt gp))
  have A19_a17 := A18_a17.other W19 (Ne.symm (Nat.ne_of_lt lq17_o))
  have K19 : Keep h0 h19 [o] := K18.wr W19 (Or.inl (List.mem_singleton.mpr rfl))
  have N19 := Fr.snoc X19 N18 go
  have Z19 : n0 ≤ h19.size := by rw [W19.size]; exact Z18
  refine ow_retV C X19 d6_13 (Nat.le_of_ble_eq_true rfl) (Nat.le_of_ble_eq_true rfl) ?_
  rw [e19]
  exact ⟨rfl, N19, K19, a17, E19_0, F19_1, F19_2, F19_3, F19_4, F19_5, A19_a17, V19_7, go, (Nat.lt_of_lt_of_le E.lt Gh17)⟩
theorem d10_0 : decode prog_38_method_12_code 0 = .ok (.lload_n 1, 1) := by decide +kernel
theorem d10_1 : decode prog_38_method_12_code 1 = .ok (.aload_n 0, 1) := by decide +kernel
theorem d10_2 : decode prog_38_method_12_code 2 = .ok (.getfield 43, 3) := by decide +kernel
theorem d10_5 : decode prog_38_method_12_code 5 = .ok (.lushr, 1) := by decide +kernel
theorem d10_6 : decode prog_38_method_12_code 6 = .ok (.l2i, 1) := by decide +kernel
theorem d10_7 : decode prog_38_method_12_code 7 = .ok (.istore_n 3, 1) := by decide +kernel
theorem d10_8 : decode prog_38_method_12_code 8 = .ok (.iload_n 3, 1) := by decide +kernel
theorem d10_9 : decode prog_38_method_12_code 9 = .ok (.aload_n 0, 1) := by decide +kernel
theorem d10_10 : decode prog_38_method_12_code 10 = .ok (.getfield 14, 3) := by decide +kernel
theorem d10_13 : decode prog_38_method_12_code 13 = .ok (.arraylength, 1) := by decide +kernel
theorem d10_14 : decode prog_38_method_12_code 14 = .ok (.if_icmp .ne 24, 3) := by decide +kernel
theorem d10_17 : decode prog_38_method_12_code 17 = .ok (.aload_n 0, 1) := by decide +kernel
theorem d10_18 : decode prog_38_method_12_code 18 = .ok (.aload_n 0, 1) := by decide +kernel
theorem d10_19 : decode prog_38_method_12_code 19 = .ok (.getfield 14, 3) := by decide +kernel
theorem d10_22 : decode prog_38_method_12_code 22 = .ok (.iconst 2, 1) := by decide +kernel
theorem d10_23 : decode prog_38_method_12_code 23 = .ok (.aload_n 0, 1) := by decide +kernel
theorem d10_24 : decode prog_38_method_12_code 24 = .ok (.getfield 14, 3) := by decide +kernel
theorem d10_27 : decode prog_38_method_12_code 27 = .ok (.arraylength, 1) := by decide +kernel
theorem d10_28 : decode prog_38_method_12_code 28 = .ok (.imul, 1) := by decide +kernel
theorem d10_29 : decode prog_38_method_12_code 29 = .ok (.invokestatic 88, 3) := by decide +kernel
theorem d10_32 : decode prog_38_method_12_code 32 = .ok (.checkcast 92, 3) := by decide +kernel
theorem d10_35 : decode prog_38_method_12_code 35 = .ok (.putfield 14, 3) := by decide +kernel
theorem d10_38 : decode prog_38_method_12_code 38 = .ok (.aload_n 0, 1) := by decide +kernel
theorem d10_39 : decode prog_38_method_12_code 39 = .ok (.getfield 14, 3) := by decide +kernel
theorem d10_42 : decode prog_38_method_12_code 42 = .ok (.iload_n 3, 1) := by decide +kernel
theorem d10_43 : decode prog_38_method_12_code 43 = .ok (.aaload, 1) := by decide +kernel
theorem d10_44 : decode prog_38_method_12_code 44 = .ok (.ifnonnull 20, 3) := by decide +kernel
theorem d10_47 : decode prog_38_method_12_code 47 = .ok (.aload_n 0, 1) := by decide +kernel
theorem d10_48 : decode prog_38_method_12_code 48 = .ok (.getfield 14, 3) := by decide +kernel
theorem d10_51 : decode prog_38_method_12_code 51 = .ok (.iload_n 3, 1) := by decide +kernel
theorem d10_52 : decode prog_38_method_12_code 52 = .ok (.aload_n 0, 1) := by decide +kernel
theorem d10_53 : decode prog_38_method_12_code 53 = .ok (.getfield 27, 3) := by decide +kernel
theorem d10_56 : decode prog_38_method_12_code 56 = .ok (.aload_n 0, 1) := by decide +kernel
theorem d10_57 : decode prog_38_method_12_code 57 = .ok (.getfield 43, 3) := by decide +kernel
theorem d10_60 : decode prog_38_method_12_code 60 = .ok (.ishl, 1) := by decide +kernel
theorem d10_61 : decode prog_38_method_12_code 61 = .ok (.newarray .int, 2) := by decide +kernel
theorem d10_63 : decode prog_38_method_12_code 63 = .ok (.aastore, 1) := by decide +kernel
theorem d10_64 : decode prog_38_method_12_code 64 = .ok (.aload_n 0, 1) := by decide +kernel
theorem d10_65 : decode prog_38_method_12_code 65 = .ok (.getfield 14, 3) := by decide +kernel
theorem d10_68 : decode prog_38_method_12_code 68 = .ok (.iload_n 3, 1) := by decide +kernel
theorem d10_69 : decode prog_38_method_12_code 69 = .ok (.aaload, 1) := by decide +kernel
theorem d10_70 : decode prog_38_method_12_code 70 = .ok (.areturn, 1) := by decide +kernel
theorem pn_10 : plainFor (⟨"com/example/quillon/quillon/exploration/IntList", "page", "(J)[I"⟩ : MethodName) = true := by first | exact plainFor_of_name (by first | (simp [plainName, overriddenIn]; done) | decide +kernel) | decide +kernel
theorem pd_6 : parseMethodDescriptor "(J)[I" = some ⟨[.long], (some (.array .int))⟩ := by decide +kernel
set_option maxRecDepth 65536 in
set_option maxHeartbeats 40000000 in
theorem rm_pageE (l : Launch) (Z : State) (a0 : Array Value) (hw : ∀ d ∈ tables_1, d.before a0 Z = true) (o pp : Addr) (W : Nat) (w rb rm : Int32) (hW : OwW W w rb rm) (n : Nat) (hn : n < 4) (h0 : Heap) (n0 : Nat) (Z0 : n0 ≤ h0.size) (O0 : Old Z n0 h0) (SA : Sta Z Z.heap "com/example/quillon/quillon/exploration/IntList" "$assertionsDisabled" "Z" (.int 1)) (HL : OwL Z h0 n0 o pp w rb rm n .null) :
    OwCon l (⟨"com/example/quillon/quillon/exploration/IntList", "page", "(J)[I"⟩ : MethodName) prog_38_method_12_code 4 (some (.array .int)) ({ frames := 0, cells := 1, slots := 16384, locals := 0 } : Room) Z #[(.ref o), (.long (Int64.ofNat n))] h0 (fun v h L => ∃ q : Addr, v = some (.ref q) ∧ Fr n0 L ∧ Keep h0 h [pp] ∧ OwA Z h pp (.array .int) 1 (fun _ => .ref q) ∧ OwA Z h q .int 16384 (fun _ => .int 0) ∧ h0.size ≤ q) := by
  obtain ⟨E, Fw, Fb, Fm, Fp, Fs, Ap, Op, go, gp⟩ := HL
  refine OwCon.of pn_10 (Ls := #[.val (.ref o), .val (.long (Int64.ofNat n)), .second, .unset]) (fun m => by first | (simp [entryFrame, mkF, argsToLocals, Value.category]; done) | rfl) ?_
  intro p e s m below meth c s₁ C X0 e0
  refine ow_lloadN C X0 d10_0 rfl (pc' := 1) rfl ?_
  refine ow_aloadN C X0 d10_1 rfl rfl (pc' := 2) rfl ?_
  refine ow_getF C X0 e0 (hw _ (List.mem_of_getElem? (i := 27) rfl)) Fb d10_2 (pc' := 5) rfl (fun T20 X20 e20 => ?_)
  refine ow_lushr C X20 d10_5 (pc' := 6) rfl ?_
  refine ow_l2i C X20 d10_6 (pc' := 7) rfl ?_
  rw [show (XT.ushrL (Int64.ofNat n) rb).toInt32 = (0 : Int32) from own_ix hW hn]
  refine ow_istoreN C X20 d10_7 (Ls' := #[.val (.ref o), .val (.long (Int64.ofNat n)), .second, .val (.int (0 : Int32))]) rfl (pc' := 8) rfl ?_
  refine ow_iloadN C X20 d10_8 rfl (pc' := 9) rfl ?_
  refine ow_aloadN C X20 d10_9 rfl rfl (pc' := 10) rfl ?_
  refine ow_getF C X20 e20 (hw _ (List.mem_of_getElem? (i := 16) rfl)) Fp d10_10 (pc' := 13) rfl (fun T21 X21 e21 => ?_)
  refine ow_arraylength C X21 e21 Ap (z := (1 : Int32)) (by decide) d10_13 (pc' := 14) rfl ?_
  refine ow_icmp_ne C X21 d10_14 (pcT := 38) (pc' := 17) (by decide) (by decide) rfl (fun _ => ?_) (fun bq => absurd bq (by decide))
  refine ow_aloadN C X21 d10_38 rfl rfl (pc' := 39) rfl ?_
  refine ow_getF C X21 e21 (hw _ (List.mem_of_getElem? (i := 16) rfl)) Fp d10_39 (pc' := 42) rfl (fun T22 X22 e22 => ?_)
  refine ow_iloadN C X22 d10_42 rfl (pc' := 43) rfl ?_
  refine ow_aaload (i := 0) C X22 e22 Ap rfl (by decide) (by decide) (Nat.le_of_ble_eq_true rfl) (v := .null) rfl d10_43 (pc' := 44) rfl ?_
  refine ow_ifnonnull_n C X22 d10_44 (pc' := 47) rfl ?_
  refine ow_aloadN C X22 d10_47 rfl rfl (pc' := 48) rfl ?_
  refine ow_getF C X22 e22 (hw _ (List.mem_of_getElem? (i := 16) rfl)) Fp d10_48 (pc' := 51) rfl (fun T23 X23 e23 => ?_)
  refine ow_iloadN C X23 d10_51 rfl (pc' := 52) rfl ?_
  refine ow_aloadN C X23 d10_52 rfl rfl (pc' := 53) rfl ?_
  refine ow_getF C X23 e23 (hw _ (List.mem_of_getElem? (i := 18) rfl)) Fw d10_53 (pc' := 56) rfl (fun T24 X24 e24 => ?_)
  refine ow_aloadN C X24 d10_56 rfl rfl (pc' := 57) rfl ?_
  refine ow_getF C X24 e24 (hw _ (List.mem_of_getElem? (i := 27) rfl)) Fb d10_57 (pc' := 60) rfl (fun T25 X25 e25 => ?_)
  refine ow_ishl C X25 d10_60 (pc' := 61) rfl ?_
  rw [show w <<< (rb &&& 31) = (16384 : Int32) from own_pg hW]
  refine ow_newarrE C X25 e25 (ad := "[I") (by decide) (hw _ (List.mem_of_getElem? (i := 4) rfl)) d10_61 (N := 16384) (cap := 16384) (by decide) (by decide) (Nat.le_of_ble_eq_true rfl) (Nat.le_of_ble_eq_true rfl) (Nat.le_of_ble_eq_true rfl) (Nat.le_of_ble_eq_true rfl) (pc' := 63) rfl (fun T26 h26 a26 g26 X26 e26 Ex26 A26 Ea26 => ?_)
  have A26 : OwA Z h26 a26 .int 16384 (fun _ => .int 0) := A26
  have lq26_o : o < a26 := Nat.lt_of_lt_of_le E.lt (Nat.le_of_eq g26.symm)
  have lq26_pp : pp < a26 := Nat.lt_of_lt_of_le Ap.lt (Nat.le_of_eq g26.symm)
  have E26_0 := E.ext Ex26
  have F26_1 := Fw.ext Ex26
  have F26_2 := Fb.ext Ex26
  have F26_3 := Fm.ext Ex26
  have F26_4 := Fp.ext Ex26
  have F26_5 := Fs.ext Ex26
  have V26_6 := Op.ext Ex26
  have A26_pp := Ap.ext Ex26
  have Gh26 : h0.size ≤ a26 := Nat.le_trans (Keep.refl h0 [pp]).1 (Nat.le_of_eq g26.symm)
  have K26 : Keep h0 h26 [pp] := (Keep.refl h0 [pp]).ext Ex26
  have Ge26 : n0 ≤ a26 := Nat.le_trans Z0 (Nat.le_of_eq g26.symm)
  have Z26 : n0 ≤ h26.size := Nat.le_trans Z0 Ex26.1
  have O26 := O0.ext Ex26
  refine ow_aastore (i := 0) C X26 e26 A26_pp rfl (V26_6.sto A26_pp (Ins.self Ea26)) (by decide) (by decide) (Nat.le_of_ble_eq_true rfl) d10_63 (pc' := 64) rfl (fun T27 h27 X27 e27 W27 => ?_)
  have E27_0 := E26_0.wr W27
  have E27_1 := Ea26.wr W27
  have F27_2 := F26_1.other W27 (Or.inl (Nat.ne_of_lt gp))
  have F27_3 := F26_2.other W27 (Or.inl (Nat.ne_of_lt gp))
  have F27_4 := F26_3.other W27 (Or.inl (Nat.ne_of_lt gp))
  have F27_5 := F26_4.other W27 (Or.inl (Nat.ne_of_lt gp))
  have F27_6 := F26_5.other W27 (Or.inl (Nat.ne_of_lt gp))
  have V27_7 := V26_6.wr W27
  have A27 : OwA Z h27 pp (.array .int) 1 (fun _ => (.ref a26)) := (A26_pp.set W27).congr (fun j hj => by rw [if_pos (by omega)])
  have A27_a26 := A26.other W27 (Ne.symm (Nat.ne_of_lt lq26_pp))
  have K27 : Keep h0 h27 [pp] := K26.wr W27 (Or.inl (List.mem_singleton.mpr rfl))
  have N27 := Fr.snoc X27 (Fr.nil n0) (Nat.le_trans go (Nat.le_of_lt gp))
  have Z27 : n0 ≤ h27.size := by rw [W27.size]; exact Z26
  have O27 := O26.wr W27 (Nat.le_trans go (Nat.le_of_lt gp))
  refine ow_aloadN C X27 d10_64 rfl rfl (pc' := 65) rfl ?_
  refine ow_getF C X27 e27 (hw _ (List.mem_of_getElem? (i := 16) rfl)) F27_5 d10_65 (pc' := 68) rfl (fun T28 X28 e28 => ?_)
  refine ow_iloadN C X28 d10_68 rfl (pc' := 69) rfl ?_
  refine ow_aaload (i := 0) C X28 e28 A27 rfl (by decide) (by decide) (Nat.le_of_ble_eq_true rfl) (v := (.ref a26)) rfl d10_69 (pc' := 70) rfl ?_
  refine ow_retA C X28 d10_70 (Nat.le_of_ble_eq_true rfl) (Nat.le_of_ble_eq_true rfl) rfl rfl ?_
  rw [e28]
  exact ⟨a26, rfl, N27, K27, A27, A27_a26, Gh26⟩
set_option maxRecDepth 65536 in
set_option maxHeartbeats 40000000 in
theorem rm_pageF (l : Launch) (Z : State) (a0 : Array Value) (hw : ∀ d ∈ tables_1, d.before a0 Z = true) (o pp : Addr) (W : Nat) (w rb rm : Int32) (hW : OwW W w rb rm) (n : Nat) (hn : n < 4) (h0 : Heap) (n0 : Nat) (Z0 : n0 ≤ h0.size) (O0 : Old Z n0 h0) (SA : Sta Z Z.heap "com/example/quillon/quillon/exploration/IntList" "$assertionsDisabled" "Z" (.int 1)) (q : Addr) (HL : OwL Z h0 n0 o pp w rb rm n (.ref q)) :
    OwCon l (⟨"com/example/quillon/quillon/exploration/IntList", "page", "(J)[I"⟩ : MethodName) prog_38_method_12_code 4 (some (.array .int)) ({ frames := 0, cells := 0, slots := 0, locals := 0 } : Room) Z #[(.ref o), (.long (Int64.ofNat n))] h0 (OwP (some (.ref q)) h0) := by
  obtain ⟨E, Fw, Fb, Fm, Fp, Fs, Ap, Op, go, gp⟩ := HL
  refine OwCon.of pn_10 (Ls := #[.val (.ref o), .val (.long (Int64.ofNat n)), .second, .unset]) (fun m => by first | (simp [entryFrame, mkF, argsToLocals, Value.category]; done) | rfl) ?_
  intro p e s m below meth c s₁ C X0 e0
  refine ow_lloadN C X0 d10_0 rfl (pc' := 1) rfl ?_
  refine ow_aloadN C X0 d10_1 rfl rfl (pc' := 2) rfl ?_
  refine ow_getF C X0 e0 (hw _ (List.mem_of_getElem? (i := 27) rfl)) Fb d10_2 (pc' := 5) rfl (fun T29 X29 e29 => ?_)
  refine ow_lushr C X29 d10_5 (pc' := 6) rfl ?_
  refine ow_l2i C X29 d10_6 (pc' := 7) rfl ?_
  rw [show (XT.ushrL (Int64.ofNat n) rb).toInt32 = (0 : Int32) from own_ix hW hn]
  refine ow_istoreN C X29 d10_7 (Ls' := #[.val (.ref o), .val (.long (Int64.ofNat n)), .second, .val (.int (0 : Int32))]) rfl (pc' := 8) rfl ?_
  refine ow_iloadN C X29 d10_8 rfl (pc' := 9) rfl ?_
  refine ow_aloadN C X29 d10_9 rfl rfl (pc' := 10) rfl ?_
  refine ow_getF C X29 e29 (hw _ (List.mem_of_getElem? (i := 16) rfl)) Fp d10_10 (pc' := 13) rfl (fun T30 X30 e30 => ?_)
  refine ow_arraylength C X30 e30 Ap (z := (1 : Int32)) (by decide) d10_13 (pc' := 14) rfl ?_
  refine ow_icmp_ne C X30 d10_14 (pcT := 38) (pc' := 17) (by decide) (by decide) rfl (fun _ => ?_) (fun bq => absurd bq (by decide))
  refine ow_aloadN C X30 d10_38 rfl rfl (pc' := 39) rfl ?_
  refine ow_getF C X30 e30 (hw _ (List.mem_of_getElem? (i := 16) rfl)) Fp d10_39 (pc' := 42) rfl (fun T31 X31 e31 => ?_)
  refine ow_iloadN C X31 d10_42 rfl (pc' := 43) rfl ?_
  refine ow_aaload (i := 0) C X31 e31 Ap rfl (by decide) (by decide) (Nat.le_of_ble_eq_true rfl) (v := (.ref q)) rfl d10_43 (pc' := 44) rfl ?_
  refine ow_ifnonnull_r C X31 d10_44 (pcT := 64) (by decide) (by decide) ?_
  refine ow_aloadN C X31 d10_64 rfl rfl (pc' := 65) rfl ?_
  refine ow_getF C X31 e31 (hw _ (List.mem_of_getElem? (i := 16) rfl)) Fp d10_65 (pc' := 68) rfl (fun T32 X32 e32 => ?_)
  refine ow_iloadN C X32 d10_68 rfl (pc' := 69) rfl ?_
  refine ow_aaload (i := 0) C X32 e32 Ap rfl (by decide) (by decide) (Nat.le_of_ble_eq_true rfl) (v := (.ref q)) rfl d10_69 (pc' := 70) rfl ?_
  exact ow_retA C X32 d10_70 (Nat.le_of_ble_eq_true rfl) (Nat.le_of_ble_eq_true rfl) rfl rfl ⟨rfl, rfl, e32⟩
theorem d15_0 : decode prog_38_method_14_code 0 = .ok (.getstatic 53, 3) := by decide +kernel
theorem d15_3 : decode prog_38_method_14_code 3 = .ok (.ifCond .ne 36, 3) := by decide +kernel
theorem d15_6 : decode prog_38_method_14_code 6 = .ok (.lconst 0, 1) := by decide +kernel
theorem d15_7 : decode prog_38_method_14_code 7 = .ok (.lload_n 1, 1) := by decide +kernel
theorem d15_8 : decode prog_38_method_14_code 8 = .ok (.lcmp, 1) := by decide +kernel
theorem d15_9 : decode prog_38_method_14_code 9 = .ok (.ifCond .gt 12, 3) := by decide +kernel
theorem d15_12 : decode prog_38_method_14_code 12 = .ok (.lload_n 1, 1) := by decide +kernel
theorem d15_13 : decode prog_38_method_14_code 13 = .ok (.aload_n 0, 1) := by decide +kernel
theorem d15_14 : decode prog_38_method_14_code 14 = .ok (.getfield 49, 3) := by decide +kernel
theorem d15_17 : decode prog_38_method_14_code 17 = .ok (.lcmp, 1) := by decide +kernel
theorem d15_18 : decode prog_38_method_14_code 18 = .ok (.ifCond .lt 21, 3) := by decide +kernel
theorem d15_21 : decode prog_38_method_14_code 21 = .ok (.new 57, 3) := by decide +kernel
theorem d15_24 : decode prog_38_method_14_code 24 = .ok (.dup, 1) := by decide +kernel
theorem d15_25 : decode prog_38_method_14_code 25 = .ok (.lload_n 1, 1) := by decide +kernel
theorem d15_26 : decode prog_38_method_14_code 26 = .ok (.aload_n 0, 1) := by decide +kernel
theorem d15_27 : decode prog_38_method_14_code 27 = .ok (.getfield 49, 3) := by decide +kernel
theorem d15_30 : decode prog_38_method_14_code 30 = .ok (.invokedynamic 93, 5) := by decide +kernel
theorem d15_35 : decode prog_38_method_14_code 35 = .ok (.invokespecial 96, 3) := by decide +kernel
theorem d15_38 : decode prog_38_method_14_code 38 = .ok (.athrow, 1) := by decide +kernel
theorem d15_39 : decode prog_38_method_14_code 39 = .ok (.return_, 1) := by decide +kernel
theorem pn_15 : plainFor (⟨"com/example/quillon/quillon/exploration/IntList", "checkIndex", "(J)V"⟩ : MethodName) = true := by first | exact plainFor_of_name (by first | (simp [plainName, overriddenIn]; done) | decide +kernel) | decide +kernel
theorem pd_7 : parseMethodDescriptor "(J)V" = some ⟨[.long], none⟩ := by decide +kernel
set_option maxRecDepth 65536 in
set_option maxHeartbeats 40000000 in
theorem rm_chk (l : Launch) (Z : State) (a0 : Array Value) (hw : ∀ d ∈ tables_1, d.before a0 Z = true) (o : Addr) (q1 : Int64) (h0 : Heap) (n0 : Nat) (O0 : Old Z n0 h0) (SA : Sta Z Z.heap "com/example/quillon/quillon/exploration/IntList" "$assertionsDisabled" "Z" (.int 1)) :
    OwCon l (⟨"com/example/quillon/quillon/exploration/IntList", "checkIndex", "(J)V"⟩ : MethodName) prog_38_method_14_code 3 none ({ frames := 0, cells := 0, slots := 0, locals := 0 } : Room) Z #[(.ref o), (.long q1)] h0 (OwP none h0) := by
  refine OwCon.of pn_15 (Ls := #[.val (.ref o), .val (.long q1), .second]) (fun m => by first | (simp [entryFrame, mkF, argsToLocals, Value.category]; done) | rfl) ?_
  intro p e s m below meth c s₁ C X0 e0
  refine ow_getS C X0 e0 (hw _ (List.mem_of_getElem? (i := 52) rfl)) (SA.ext O0.2) d15_0 (pc' := 3) rfl (fun T33 X33 e33 => ?_)
  refine ow_if_ne C X33 d15_3 (pcT := 39) (pc' := 6) (by decide) (by decide) rfl (fun _ => ?_) (fun bq => absurd bq (by decide))
  exact ow_retV C X33 d15_39 (Nat.le_of_ble_eq_true rfl) (Nat.le_of_ble_eq_true rfl) ⟨rfl, rfl, e33⟩
theorem d9_0 : decode prog_38_method_4_code 0 = .ok (.getstatic 53, 3) := by decide +kernel
theorem d9_3 : decode prog_38_method_4_code 3 = .ok (.ifCond .ne 19, 3) := by decide +kernel
theorem d9_6 : decode prog_38_method_4_code 6 = .ok (.aload_n 0, 1) := by decide +kernel
theorem d9_7 : decode prog_38_method_4_code 7 = .ok (.getfield 27, 3) := by decide +kernel
theorem d9_10 : decode prog_38_method_4_code 10 = .ok (.iconst 1, 1) := by decide +kernel
theorem d9_11 : decode prog_38_method_4_code 11 = .ok (.if_icmp .eq 11, 3) := by decide +kernel
theorem d9_14 : decode prog_38_method_4_code 14 = .ok (.new 57, 3) := by decide +kernel
theorem d9_17 : decode prog_38_method_4_code 17 = .ok (.dup, 1) := by decide +kernel
theorem d9_18 : decode prog_38_method_4_code 18 = .ok (.invokespecial 59, 3) := by decide +kernel
theorem d9_21 : decode prog_38_method_4_code 21 = .ok (.athrow, 1) := by decide +kernel
theorem d9_22 : decode prog_38_method_4_code 22 = .ok (.aload_n 0, 1) := by decide +kernel
theorem d9_23 : decode prog_38_method_4_code 23 = .ok (.aload_n 0, 1) := by decide +kernel
theorem d9_24 : decode prog_38_method_4_code 24 = .ok (.getfield 49, 3) := by decide +kernel
theorem d9_27 : decode prog_38_method_4_code 27 = .ok (.invokevirtual 60, 3) := by decide +kernel
theorem d9_30 : decode prog_38_method_4_code 30 = .ok (.aload_n 0, 1) := by decide +kernel
theorem d9_31 : decode prog_38_method_4_code 31 = .ok (.aload_n 0, 1) := by decide +kernel
theorem d9_32 : decode prog_38_method_4_code 32 = .ok (.getfield 49, 3) := by decide +kernel
theorem d9_35 : decode prog_38_method_4_code 35 = .ok (.invokevirtual 64, 3) := by decide +kernel
theorem d9_38 : decode prog_38_method_4_code 38 = .ok (.iload_n 1, 1) := by decide +kernel
theorem d9_39 : decode prog_38_method_4_code 39 = .ok (.iastore, 1) := by decide +kernel
theorem d9_40 : decode prog_38_method_4_code 40 = .ok (.aload_n 0, 1) := by decide +kernel
theorem d9_41 : decode prog_38_method_4_code 41 = .ok (.dup, 1) := by decide +kernel
theorem d9_42 : decode prog_38_method_4_code 42 = .ok (.getfield 49, 3) := by decide +kernel
theorem d9_45 : decode prog_38_method_4_code 45 = .ok (.lconst 1, 1) := by decide +kernel
theorem d9_46 : decode prog_38_method_4_code 46 = .ok (.ladd, 1) := by decide +kernel
theorem d9_47 : decode prog_38_method_4_code 47 = .ok (.putfield 49, 3) := by decide +kernel
theorem d9_50 : decode prog_38_method_4_code 50 = .ok (.return_, 1) := by decide +kernel
theorem pn_9 : plainFor (⟨"com/example/quillon/quillon/exploration/IntList", "add", "(I)V"⟩ : MethodName) = true := by first | exact plainFor_of_name (by first | (simp [plainName, overriddenIn]; done) | decide +kernel) | decide +kernel
set_option maxRecDepth 65536 in
set_option maxHeartbeats 40000000 in
theorem rm_addIE (l : Launch) (Z : State) (a0 : Array Value) (hw : ∀ d ∈ tables_1, d.before a0 Z = true) (o pp : Addr) (W : Nat) (w rb rm : Int32) (hW : OwW W w rb rm) (n : Nat) (hn : n < 4) (h0 : Heap) (n0 : Nat) (Z0 : n0 ≤ h0.size) (O0 : Old Z n0 h0) (SA : Sta Z Z.heap "com/example/quillon/quillon/exploration/IntList" "$assertionsDisabled" "Z" (.int 1)) (q1 : Int32) (HL : OwL Z h0 n0 o pp w rb rm n .null) :
    OwCon l (⟨"com/example/quillon/quillon/exploration/IntList", "add", "(I)V"⟩ : MethodName) prog_38_method_4_code 2 none ({ frames := 1, cells := 1, slots := 16384, locals := 15 } : Room) Z #[(.ref o), (.int q1)] h0 (fun v h L => v = none ∧ Fr n0 L ∧ ∃ (q : Addr) (f' : Nat → Int32), OwL Z h n0 o pp w rb rm (n + 1) (.ref q) ∧ OwA Z h q .int 16384 (fun j => .int (f' j)) ∧ o < q ∧ pp ≠ q ∧ Keep h0 h [o, pp] ∧ (∀ j, j < n * W → f' j = 0) ∧ f' (n * W) = q1) := by
  obtain ⟨E, Fw, Fb, Fm, Fp, Fs, Ap, Op, go, gp⟩ := HL
  refine OwCon.of pn_9 (Ls := #[.val (.ref o), .val (.int q1)]) (fun m => by first | (simp [entryFrame, mkF, argsToLocals, Value.category]; done) | rfl) ?_
  intro p e s m below meth c s₁ C X0 e0
  refine ow_getS C X0 e0 (hw _ (List.mem_of_getElem? (i := 52) rfl)) (SA.ext O0.2) d9_0 (pc' := 3) rfl (fun T34 X34 e34 => ?_)
  refine ow_if_ne C X34 d9_3 (pcT := 22) (pc' := 6) (by decide) (by decide) rfl (fun _ => ?_) (fun bq => absurd bq (by decide))
  refine ow_aloadN C X34 d9_22 rfl rfl (pc' := 23) rfl ?_
  refine ow_aloadN C X34 d9_23 rfl rfl (pc' := 24) rfl ?_
  refine ow_getF C X34 e34 (hw _ (List.mem_of_getElem? (i := 36) rfl)) Fs d9_24 (pc' := 27) rfl (fun T35 X35 e35 => ?_)
  refine ow_callR C X35 e35 (hw _ (List.mem_of_getElem? (i := 54) rfl)) (hw _ (List.mem_of_getElem? (i := 55) rfl)) (hw _ (List.mem_of_getElem? (i := 56) rfl)) (hw _ (List.mem_of_getElem? (i := 6) rfl)) (hw _ (List.mem_of_getElem? (i := 7) rfl)) (hw _ (List.mem_of_getElem? (i := 57) rfl)) (by decide) E (rm_pageE l Z a0 hw o pp W w rb rm hW n hn h0 n0 Z0 O0 SA ⟨E, Fw, Fb, Fm, Fp, Fs, Ap, Op, go, gp⟩) pd_6 rfl (argsL := [(.long (Int64.ofNat n))]) (rest := []) rfl rfl d9_27 (Nat.le_of_ble_eq_true rfl) (Nat.le_of_ble_eq_true rfl) (Nat.le_of_ble_eq_true rfl) (Nat.le_of_ble_eq_true rfl) (pc' := 30) rfl (fun T36 v36 L36 X36 Q36 => ?_)
  obtain ⟨q36, rfl, N36, K36, Ap36, Aq36, hq36⟩ := Q36
  have E36_0 := E.keep K36
  have F36_1 := Fw.keep K36 (own_nm1 (Nat.ne_of_lt gp))
  have F36_2 := Fb.keep K36 (own_nm1 (Nat.ne_of_lt gp))
  have F36_3 := Fm.keep K36 (own_nm1 (Nat.ne_of_lt gp))
  have F36_4 := Fp.keep K36 (own_nm1 (Nat.ne_of_lt gp))
  have F36_5 := Fs.keep K36 (own_nm1 (Nat.ne_of_lt gp))
  have V36_6 := Op.keep K36
  have nq36_o : o ≠ q36 := Nat.ne_of_lt (Nat.lt_of_lt_of_le E.lt hq36)
  have nq36_pp : pp ≠ q36 := Nat.ne_of_lt (Nat.lt_of_lt_of_le Ap.lt hq36)
  have Nn36 := Fr.app (Fr.nil n0) N36
  have Z36 : n0 ≤ T36.heap.size := Nat.le_trans Z0 K36.1
  have O36 := O0.keep K36 (own_all1 (Nat.le_trans go (Nat.le_of_lt gp)))
  have Kt36 : Keep h0 _ [o, pp] := (Keep.refl h0 [o, pp]).trans K36 (fun x hx => by simp only [List.mem_cons, List.not_mem_nil, or_false] at hx; rcases hx with rfl; exact (Or.inl (by simp)))
  show OwF p e below _ T36 (mkF m 30 #[.val (.ref o), .val (.int q1)] [(.ref q36)])
  refine ow_aloadN C X36 d9_30 rfl rfl (pc' := 31) rfl ?_
  refine ow_aloadN C X36 d9_31 rfl rfl (pc' := 32) rfl ?_
  refine ow_getF C X36 rfl (hw _ (List.mem_of_getElem? (i := 36) rfl)) F36_5 d9_32 (pc' := 35) rfl (fun T37 X37 e37 => ?_)
  refine ow_callRP C X37 e37 (hw _ (List.mem_of_getElem? (i := 59) rfl)) (hw _ (List.mem_of_getElem? (i := 60) rfl)) (hw _ (List.mem_of_getElem? (i := 61) rfl)) (hw _ (List.mem_of_getElem? (i := 6) rfl)) (hw _ (List.mem_of_getElem? (i := 7) rfl)) (hw _ (List.mem_of_getElem? (i := 62) rfl)) (by decide) E36_0 (rm_off l Z a0 hw o (Int64.ofNat n) rm w T36.heap F36_3 F36_1) ⟨rfl, rfl⟩ pd_3 rfl (argsL := [(.long (Int64.ofNat n))]) (rest := [(.ref q36)]) rfl rfl d9_35 (Nat.le_of_ble_eq_true rfl) (Nat.le_of_ble_eq_true rfl) (Nat.le_of_ble_eq_true rfl) (Nat.le_of_ble_eq_true rfl) (pc' := 38) rfl (fun T38 X38 e38 => ?_)
  rw [show (own_off (Int64.ofNat n) rm w) = Int32.ofNat (n * W) from own_offW hW hn]
  refine ow_iloadN C X38 d9_38 rfl (pc' := 39) rfl ?_
  refine ow_iastore (i := (n * W)) C X38 e38 Aq36 (own_ix0 (by have := own_nW hW hn; omega)) (own_ixN (by have := own_nW hW hn; omega)) (by have := own_nW hW hn; have := own_W4 hW; omega) d9_39 (pc' := 40) rfl (fun T39 h39 X39 e39 W39 => ?_)
  have E39_0 := E36_0.wr W39
  have F39_1 := F36_1.other W39 (Or.inl nq36_o)
  have F39_2 := F36_2.other W39 (Or.inl nq36_o)
  have F39_3 := F36_3.other W39 (Or.inl nq36_o)
  have F39_4 := F36_4.other W39 (Or.inl nq36_o)
  have F39_5 := F36_5.other W39 (Or.inl nq36_o)
  have V39_6 := V36_6.wr W39
  have A39_pp := Ap36.other W39 nq36_pp
  have A39 : OwA Z h39 q36 .int 16384 (fun j => .int (if j = (n * W) then q1 else (0 : Int32))) := (Aq36.set W39).congr (fun j _ => by (try dsimp only); split <;> rfl)
  have K39 : Keep h0 h39 [o, pp] := Kt36.wr W39 (Or.inr (Nat.le_trans (Keep.refl h0 [o, pp]).1 hq36))
  have N39 := Fr.snoc X39 Nn36 (Nat.le_trans Z0 hq36)
  have Z39 : n0 ≤ h39.size := by rw [W39.size]; exact Z36
  have O39 := O36.wr W39 (Nat.le_trans Z0 hq36)
  refine ow_aloadN C X39 d9_40 rfl rfl (pc' := 41) rfl ?_
  refine ow_dup C X39 d9_41 rfl (pc' := 42) rfl ?_
  refine ow_getF C X39 e39 (hw _ (List.mem_of_getElem? (i := 36) rfl)) F39_5 d9_42 (pc' := 45) rfl (fun T40 X40 e40 => ?_)
  refine ow_lconst (1 : Int64) C X40 d9_45 (by decide) (pc' := 46) rfl ?_
  refine ow_ladd C X40 d9_46 (pc' := 47) rfl ?_
  rw [own_len1 n]
  refine ow_putF C X40 e40 (hw _ (List.mem_of_getElem? (i := 36) rfl)) F39_5 E39_0 (Or.inl (hw _ (List.mem_of_getElem? (i := 37) rfl))) (hw _ (List.mem_of_getElem? (i := 6) rfl)) (ty := .long) (by decide) rfl rfl d9_47 (pc' := 50) rfl (fun T41 h41 X41 e41 W41 => ?_)
  have E41_0 := E39_0.wr W41
  have F41_1 := F39_1.other W41 (Or.inr (slot_ne (Or.inr (hw _ (List.mem_of_getElem? (i := 19) rfl))) (Or.inl (hw _ (List.mem_of_getElem? (i := 37) rfl))) (by decide) (t := .int) (t' := .long) (by decide) (by decide)))
  have F41_2 := F39_2.other W41 (Or.inr (slot_ne (Or.inr (hw _ (List.mem_of_getElem? (i := 28) rfl))) (Or.inl (hw _ (List.mem_of_getElem? (i := 37) rfl))) (by decide) (t := .int) (t' := .long) (by decide) (by decide)))
  have F41_3 := F39_3.other W41 (Or.inr (slot_ne (Or.inr (hw _ (List.mem_of_getElem? (i := 30) rfl))) (Or.inl (hw _ (List.mem_of_getElem? (i := 37) rfl))) (by decide) (t := .int) (t' := .long) (by decide) (by decide)))
  have F41_4 := F39_4.other W41 (Or.inr (slot_ne (Or.inl (hw _ (List.mem_of_getElem? (i := 17) rfl))) (Or.inl (hw _ (List.mem_of_getElem? (i := 37) rfl))) (by decide) (t := (.array (.array .int))) (t' := .long) (by decide) (by decide)))
  have F41_5 := F39_5.same W41
  have V41_6 := V39_6.wr W41
  have A41_pp := A39_pp.other W41 (Ne.symm (Nat.ne_of_lt gp))
  have A41_q36 := A39.other W41 (Ne.symm nq36_o)
  have K41 : Keep h0 h41 [o, pp] := K39.wr W41 (Or.inl (by simp))
  have N41 := Fr.snoc X41 N39 go
  have Z41 : n0 ≤ h41.size := by rw [W41.size]; exact Z39
  have O41 := O39.wr W41 go
  refine ow_retV C X41 d9_50 (Nat.le_of_ble_eq_true rfl) (Nat.le_of_ble_eq_true rfl) ?_
  rw [e41]
  exact ⟨rfl, N41, q36, (fun j => (if j = (n * W) then q1 else (0 : Int32))), ⟨E41_0, F41_1, F41_2, F41_3, F41_4, F41_5, A41_pp, V41_6, go, gp⟩, A41_q36, Nat.lt_of_lt_of_le E.lt (Nat.le_trans (Keep.refl h0 [o, pp]).1 hq36), nq36_pp, K41, (fun j hj => if_neg (by omega)), if_pos rfl⟩
set_option maxRecDepth 65536 in
set_option maxHeartbeats 40000000 in
theorem rm_addIF (l : Launch) (Z : State) (a0 : Array Value) (hw : ∀ d ∈ tables_1, d.before a0 Z = true) (o pp : Addr) (W : Nat) (w rb rm : Int32) (hW : OwW W w rb rm) (n : Nat) (hn : n < 4) (h0 : Heap) (n0 : Nat) (Z0 : n0 ≤ h0.size) (O0 : Old Z n0 h0) (SA : Sta Z Z.heap "com/example/quillon/quillon/exploration/IntList" "$assertionsDisabled" "Z" (.int 1)) (q : Addr) (f : Nat → Int32) (q1 : Int32) (HL : OwL Z h0 n0 o pp w rb rm n (.ref q)) (Aq : OwA Z h0 q .int 16384 (fun j => .int (f j))) (gq : o < q) (npq : pp ≠ q) :
    OwCon l (⟨"com/example/quillon/quillon/exploration/IntList", "add", "(I)V"⟩ : MethodName) prog_38_method_4_code 2 none ({ frames := 1, cells := 0, slots := 0, locals := 15 } : Room) Z #[(.ref o), (.int q1)] h0 (fun v h L => v = none ∧ Fr n0 L ∧ ∃ (f' : Nat → Int32), OwL Z h n0 o pp w rb rm (n + 1) (.ref q) ∧ OwA Z h q .int 16384 (fun j => .int (f' j)) ∧ Keep h0 h [o, q] ∧ (∀ j, j < n * W → f' j = f j) ∧ f' (n * W) = q1) := by
  obtain ⟨E, Fw, Fb, Fm, Fp, Fs, Ap, Op, go, gp⟩ := HL
  refine OwCon.of pn_9 (Ls := #[.val (.ref o), .val (.int q1)]) (fun m => by first | (simp [entryFrame, mkF, argsToLocals, Value.category]; done) | rfl) ?_
  intro p e s m below meth c s₁ C X0 e0
  refine ow_getS C X0 e0 (hw _ (List.mem_of_getElem? (i := 52) rfl)) (SA.ext O0.2) d9_0 (pc' := 3) rfl (fun T42 X42 e42 => ?_)
  refine ow_if_ne C X42 d9_3 (pcT := 22) (pc' := 6) (by decide) (by decide) rfl (fun _ => ?_) (fun bq => absurd bq (by decide))
  refine ow_aloadN C X42 d9_22 rfl rfl (pc' := 23) rfl ?_
  refine ow_aloadN C X42 d9_23 rfl rfl (pc' := 24) rfl ?_
  refine ow_getF C X42 e42 (hw _ (List.mem_of_getElem? (i := 36) rfl)) Fs d9_24 (pc' := 27) rfl (fun T43 X43 e43 => ?_)
  refine ow_callR C X43 e43 (hw _ (List.mem_of_getElem? (i := 54) rfl)) (hw _ (List.mem_of_getElem? (i := 55) rfl)) (hw _ (List.mem_of_getElem? (i := 56) rfl)) (hw _ (List.mem_of_getElem? (i := 6) rfl)) (hw _ (List.mem_of_getElem? (i := 7) rfl)) (hw _ (List.mem_of_getElem? (i := 57) rfl)) (by decide) E (rm_pageF l Z a0 hw o pp W w rb rm hW n hn h0 n0 Z0 O0 SA q ⟨E, Fw, Fb, Fm, Fp, Fs, Ap, Op, go, gp⟩) pd_6 rfl (argsL := [(.long (Int64.ofNat n))]) (rest := []) rfl rfl d9_27 (Nat.le_of_ble_eq_true rfl) (Nat.le_of_ble_eq_true rfl) (Nat.le_of_ble_eq_true rfl) (Nat.le_of_ble_eq_true rfl) (pc' := 30) rfl (fun T44 v44 L44 X44 Q44 => ?_)
  obtain ⟨rfl, rfl, e44⟩ := Q44
  rw [List.append_nil] at X44
  show OwF p e below _ T44 (mkF m 30 #[.val (.ref o), .val (.int q1)] [(.ref q)])
  refine ow_aloadN C X44 d9_30 rfl rfl (pc' := 31) rfl ?_
  refine ow_aloadN C X44 d9_31 rfl rfl (pc' := 32) rfl ?_
  refine ow_getF C X44 e44 (hw _ (List.mem_of_getElem? (i := 36) rfl)) Fs d9_32 (pc' := 35) rfl (fun T45 X45 e45 => ?_)
  refine ow_callRP C X45 e45 (hw _ (List.mem_of_getElem? (i := 59) rfl)) (hw _ (List.mem_of_getElem? (i := 60) rfl)) (hw _ (List.mem_of_getElem? (i := 61) rfl)) (hw _ (List.mem_of_getElem? (i := 6) rfl)) (hw _ (List.mem_of_getElem? (i := 7) rfl)) (hw _ (List.mem_of_getElem? (i := 62) rfl)) (by decide) E (rm_off l Z a0 hw o (Int64.ofNat n) rm w h0 Fm Fw) ⟨rfl, rfl⟩ pd_3 rfl (argsL := [(.long (Int64.ofNat n))]) (rest := [(.ref q)]) rfl rfl d9_35 (Nat.le_of_ble_eq_true rfl) (Nat.le_of_ble_eq_true rfl) (Nat.le_of_ble_eq_true rfl) (Nat.le_of_ble_eq_true rfl) (pc' := 38) rfl (fun T46 X46 e46 => ?_)
  rw [show (own_off (Int64.ofNat n) rm w) = Int32.ofNat (n * W) from own_offW hW hn]
  refine ow_iloadN C X46 d9_38 rfl (pc' := 39) rfl ?_
  refine ow_iastore (i := (n * W)) C X46 e46 Aq (own_ix0 (by have := own_nW hW hn; omega)) (own_ixN (by have := own_nW hW hn; omega)) (by have := own_nW hW hn; have := own_W4 hW; omega) d9_39 (pc' := 40) rfl (fun T47 h47 X47 e47 W47 => ?_)
  have E47_0 := E.wr W47
  have F47_1 := Fw.other W47 (Or.inl (Nat.ne_of_lt gq))
  have F47_2 := Fb.other W47 (Or.inl (Nat.ne_of_lt gq))
  have F47_3 := Fm.other W47 (Or.inl (Nat.ne_of_lt gq))
  have F47_4 := Fp.other W47 (Or.inl (Nat.ne_of_lt gq))
  have F47_5 := Fs.other W47 (Or.inl (Nat.ne_of_lt gq))
  have V47_6 := Op.wr W47
  have A47_pp := Ap.other W47 npq
  have A47 : OwA Z h47 q .int 16384 (fun j => .int (if j = (n * W) then q1 else (f j))) := (Aq.set W47).congr (fun j _ => by (try dsimp only); split <;> rfl)
  have K47 : Keep h0 h47 [o, q] := (Keep.refl h0 [o, q]).wr W47 (Or.inl (by simp))
  have N47 := Fr.snoc X47 (Fr.nil n0) (Nat.le_trans go (Nat.le_of_lt gq))
  have Z47 : n0 ≤ h47.size := by rw [W47.size]; exact Z0
  have O47 := O0.wr W47 (Nat.le_trans go (Nat.le_of_lt gq))
  refine ow_aloadN C X47 d9_40 rfl rfl (pc' := 41) rfl ?_
  refine ow_dup C X47 d9_41 rfl (pc' := 42) rfl ?_
  refine ow_getF C X47 e47 (hw _ (List.mem_of_getElem? (i := 36) rfl)) F47_5 d9_42 (pc' := 45) rfl (fun T48 X48 e48 => ?_)
  refine ow_lconst (1 : Int64) C X48 d9_45 (by decide) (pc' := 46) rfl ?_
  refine ow_ladd C X48 d9_46 (pc' := 47) rfl ?_
  rw [own_len1 n]
  refine ow_putF C X48 e48 (hw _ (List.mem_of_getElem? (i := 36) rfl)) F47_5 E47_0 (Or.inl (hw _ (List.mem_of_getElem? (i := 37) rfl))) (hw _ (List.mem_of_getElem? (i := 6) rfl)) (ty := .long) (by decide) rfl rfl d9_47 (pc' := 50) rfl (fun T49 h49 X49 e49 W49 => ?_)
  have E49_0 := E47_0.wr W49
  have F49_1 := F47_1.other W49 (Or.inr (slot_ne (Or.inr (hw _ (List.mem_of_getElem? (i := 19) rfl))) (Or.inl (hw _ (List.mem_of_getElem? (i := 37) rfl))) (by decide) (t := .int) (t' := .long) (by decide) (by decide)))
  have F49_2 := F47_2.other W49 (Or.inr (slot_ne (Or.inr (hw _ (List.mem_of_getElem? (i := 28) rfl))) (Or.inl (hw _ (List.mem_of_getElem? (i := 37) rfl))) (by decide) (t := .int) (t' := .long) (by decide) (by decide)))
  have F49_3 := F47_3.other W49 (Or.inr (slot_ne (Or.inr (hw _ (List.mem_of_getElem? (i := 30) rfl))) (Or.inl (hw _ (List.mem_of_getElem? (i := 37) rfl))) (by decide) (t := .int) (t' := .long) (by decide) (by decide)))
  have F49_4 := F47_4.other W49 (Or.inr (slot_ne (Or.inl (hw _ (List.mem_of_getElem? (i := 17) rfl))) (Or.inl (hw _ (List.mem_of_getElem? (i := 37) rfl))) (by decide) (t := (.array (.array .int))) (t' := .long) (by decide) (by decide)))
  have F49_5 := F47_5.same W49
  have V49_6 := V47_6.wr W49
  have A49_pp := A47_pp.other W49 (Ne.symm (Nat.ne_of_lt gp))
  have A49_q := A47.other W49 (Ne.symm (Nat.ne_of_lt gq))
  have K49 : Keep h0 h49 [o, q] := K47.wr W49 (Or.inl (by simp))
  have N49 := Fr.snoc X49 N47 go
  have Z49 : n0 ≤ h49.size := by rw [W49.size]; exact Z47
  have O49 := O47.wr W49 go
  refine ow_retV C X49 d9_50 (Nat.le_of_ble_eq_true rfl) (Nat.le_of_ble_eq_true rfl) ?_
  rw [e49]
  exact ⟨rfl, N49, (fun j => (if j = (n * W) then q1 else (f j))), ⟨E49_0, F49_1, F49_2, F49_3, F49_4, F49_5, A49_pp, V49_6, go, gp⟩, A49_q, K49, (fun j hj => if_neg (by omega)), if_pos rfl⟩
theorem d12_0 : decode prog_38_method_5_code 0 = .ok (.getstatic 53, 3) := by decide +kernel
theorem d12_3 : decode prog_38_method_5_code 3 = .ok (.ifCond .ne 20, 3) := by decide +kernel
theorem d12_6 : decode prog_38_method_5_code 6 = .ok (.aload_n 1, 1) := by decide +kernel
theorem d12_7 : decode prog_38_method_5_code 7 = .ok (.arraylength, 1) := by decide +kernel
theorem d12_8 : decode prog_38_method_5_code 8 = .ok (.aload_n 0, 1) := by decide +kernel
theorem d12_9 : decode prog_38_method_5_code 9 = .ok (.getfield 27, 3) := by decide +kernel
theorem d12_12 : decode prog_38_method_5_code 12 = .ok (.if_icmp .eq 11, 3) := by decide +kernel
theorem d12_15 : decode prog_38_method_5_code 15 = .ok (.new 57, 3) := by decide +kernel
theorem d12_18 : decode prog_38_method_5_code 18 = .ok (.dup, 1) := by decide +kernel
theorem d12_19 : decode prog_38_method_5_code 19 = .ok (.invokespecial 59, 3) := by decide +kernel
theorem d12_22 : decode prog_38_method_5_code 22 = .ok (.athrow, 1) := by decide +kernel
theorem d12_23 : decode prog_38_method_5_code 23 = .ok (.aload_n 1, 1) := by decide +kernel
theorem d12_24 : decode prog_38_method_5_code 24 = .ok (.iconst 0, 1) := by decide +kernel
theorem d12_25 : decode prog_38_method_5_code 25 = .ok (.aload_n 0, 1) := by decide +kernel
theorem d12_26 : decode prog_38_method_5_code 26 = .ok (.aload_n 0, 1) := by decide +kernel
theorem d12_27 : decode prog_38_method_5_code 27 = .ok (.getfield 49, 3) := by decide +kernel
theorem d12_30 : decode prog_38_method_5_code 30 = .ok (.invokevirtual 60, 3) := by decide +kernel
theorem d12_33 : decode prog_38_method_5_code 33 = .ok (.aload_n 0, 1) := by decide +kernel
theorem d12_34 : decode prog_38_method_5_code 34 = .ok (.aload_n 0, 1) := by decide +kernel
theorem d12_35 : decode prog_38_method_5_code 35 = .ok (.getfield 49, 3) := by decide +kernel
theorem d12_38 : decode prog_38_method_5_code 38 = .ok (.invokevirtual 64, 3) := by decide +kernel
theorem d12_41 : decode prog_38_method_5_code 41 = .ok (.aload_n 0, 1) := by decide +kernel
theorem d12_42 : decode prog_38_method_5_code 42 = .ok (.getfield 27, 3) := by decide +kernel
theorem d12_45 : decode prog_38_method_5_code 45 = .ok (.invokestatic 68, 3) := by decide +kernel
theorem d12_48 : decode prog_38_method_5_code 48 = .ok (.aload_n 0, 1) := by decide +kernel
theorem d12_49 : decode prog_38_method_5_code 49 = .ok (.dup, 1) := by decide +kernel
theorem d12_50 : decode prog_38_method_5_code 50 = .ok (.getfield 49, 3) := by decide +kernel
theorem d12_53 : decode prog_38_method_5_code 53 = .ok (.lconst 1, 1) := by decide +kernel
theorem d12_54 : decode prog_38_method_5_code 54 = .ok (.ladd, 1) := by decide +kernel
theorem d12_55 : decode prog_38_method_5_code 55 = .ok (.putfield 49, 3) := by decide +kernel
theorem d12_58 : decode prog_38_method_5_code 58 = .ok (.return_, 1) := by decide +kernel
theorem pn_12 : plainFor (⟨"com/example/quillon/quillon/exploration/IntList", "add", "([I)V"⟩ : MethodName) = true := by first | exact plainFor_of_name (by first | (simp [plainName, overriddenIn]; done) | decide +kernel) | decide +kernel
theorem pd_8 : parseMethodDescriptor "([I)V" = some ⟨[(.array .int)], none⟩ := by decide +kernel
set_option maxRecDepth 65536 in
set_option maxHeartbeats 40000000 in
theorem rm_addAE (l : Launch) (Z : State) (a0 : Array Value) (hw : ∀ d ∈ tables_1, d.before a0 Z = true) (o pp : Addr) (W : Nat) (w rb rm : Int32) (hW : OwW W w rb rm) (n : Nat) (hn : n < 4) (h0 : Heap) (n0 : Nat) (Z0 : n0 ≤ h0.size) (O0 : Old Z n0 h0) (SA : Sta Z Z.heap "com/example/quillon/quillon/exploration/IntList" "$assertionsDisabled" "Z" (.int 1)) (ra : Addr) (gr : Nat → Int32) (HL : OwL Z h0 n0 o pp w rb rm n .null) (Ar : OwA Z h0 ra .int W (fun j => .int (gr j))) (gr_ : ra < o) :
    OwCon l (⟨"com/example/quillon/quillon/exploration/IntList", "add", "([I)V"⟩ : MethodName) prog_38_method_5_code 2 none ({ frames := 1, cells := 1, slots := 16384, locals := 30 } : Room) Z #[(.ref o), (.ref ra)] h0 (fun v h L => v = none ∧ Fr n0 L ∧ ∃ (q : Addr) (f' : Nat → Int32), OwL Z h n0 o pp w rb rm (n + 1) (.ref q) ∧ OwA Z h q .int 16384 (fun j => .int (f' j)) ∧ o < q ∧ pp ≠ q ∧ Keep h0 h [o, pp] ∧ (∀ j, j < n * W → f' j = 0) ∧ (∀ j, j < W → f' (n * W + j) = gr j)) := by
  obtain ⟨E, Fw, Fb, Fm, Fp, Fs, Ap, Op, go, gp⟩ := HL
  refine OwCon.of pn_12 (Ls := #[.val (.ref o), .val (.ref ra)]) (fun m => by first | (simp [entryFrame, mkF, argsToLocals, Value.category]; done) | rfl) ?_
  intro p e s m below meth c s₁ C X0 e0
  refine ow_getS C X0 e0 (hw _ (List.mem_of_getElem? (i := 52) rfl)) (SA.ext O0.2) d12_0 (pc' := 3) rfl (fun T50 X50 e50 => ?_)
  refine ow_if_ne C X50 d12_3 (pcT := 23) (pc' := 6) (by decide) (by decide) rfl (fun _ => ?_) (fun bq => absurd bq (by decide))
  refine ow_aloadN C X50 d12_23 rfl rfl (pc' := 24) rfl ?_
  refine ow_iconst (0 : Int32) C X50 d12_24 (by decide) (pc' := 25) rfl ?_
  refine ow_aloadN C X50 d12_25 rfl rfl (pc' := 26) rfl ?_
  refine ow_aloadN C X50 d12_26 rfl rfl (pc' := 27) rfl ?_
  refine ow_getF C X50 e50 (hw _ (List.mem_of_getElem? (i := 36) rfl)) Fs d12_27 (pc' := 30) rfl (fun T51 X51 e51 => ?_)
  refine ow_callR C X51 e51 (hw _ (List.mem_of_getElem? (i := 54) rfl)) (hw _ (List.mem_of_getElem? (i := 55) rfl)) (hw _ (List.mem_of_getElem? (i := 56) rfl)) (hw _ (List.mem_of_getElem? (i := 6) rfl)) (hw _ (List.mem_of_getElem? (i := 7) rfl)) (hw _ (List.mem_of_getElem? (i := 57) rfl)) (by decide) E (rm_pageE l Z a0 hw o pp W w rb rm hW n hn h0 n0 Z0 O0 SA ⟨E, Fw, Fb, Fm, Fp, Fs, Ap, Op, go, gp⟩) pd_6 rfl (argsL := [(.long (Int64.ofNat n))]) (rest := [(.int (0 : Int32)), (.ref ra)]) rfl rfl d12_30 (Nat.le_of_ble_eq_true rfl) (Nat.le_of_ble_eq_true rfl) (Nat.le_of_ble_eq_true rfl) (Nat.le_of_ble_eq_true rfl) (pc' := 33) rfl (fun T52 v52 L52 X52 Q52 => ?_)
  obtain ⟨q52, rfl, N52, K52, Ap52, Aq52, hq52⟩ := Q52
  have E52_0 := E.keep K52
  have F52_1 := Fw.keep K52 (own_nm1 (Nat.ne_of_lt gp))
  have F52_2 := Fb.keep K52 (own_nm1 (Nat.ne_of_lt gp))
  have F52_3 := Fm.keep K52 (own_nm1 (Nat.ne_of_lt gp))
  have F52_4 := Fp.keep K52 (own_nm1 (Nat.ne_of_lt gp))
  have F52_5 := Fs.keep K52 (own_nm1 (Nat.ne_of_lt gp))
  have V52_6 := Op.keep K52
  have A52_ra := Ar.keep K52 (own_nm1 (Nat.ne_of_lt (Nat.lt_trans gr_ gp)))
  have nq52_o : o ≠ q52 := Nat.ne_of_lt (Nat.lt_of_lt_of_le E.lt hq52)
  have nq52_pp : pp ≠ q52 := Nat.ne_of_lt (Nat.lt_of_lt_of_le Ap.lt hq52)
  have nq52_ra : ra ≠ q52 := Nat.ne_of_lt (Nat.lt_of_lt_of_le Ar.lt hq52)
  have Nn52 := Fr.app (Fr.nil n0) N52
  have Z52 : n0 ≤ T52.heap.size := Nat.le_trans Z0 K52.1
  have O52 := O0.keep K52 (own_all1 (Nat.le_trans go (Nat.le_of_lt gp)))
  have Kt52 : Keep h0 _ [o, pp] := (Keep.refl h0 [o, pp]).trans K52 (fun x hx => by simp only [List.mem_cons, List.not_mem_nil, or_false] at hx; rcases hx with rfl; exact (Or.inl (by simp)))
  show OwF p e below _ T52 (mkF m 33 #[.val (.ref o), .val (.ref ra)] [(.ref q52), (.int (0 : Int32)), (.ref ra)])
  refine ow_aloadN C X52 d12_33 rfl rfl (pc' := 34) rfl ?_
  refine ow_aloadN C X52 d12_34 rfl rfl (pc' := 35) rfl ?_
  refine ow_getF C X52 rfl (hw _ (List.mem_of_getElem? (i := 36) rfl)) F52_5 d12_35 (pc' := 38) rfl (fun T53 X53 e53 => ?_)
  refine ow_callRP C X53 e53 (hw _ (List.mem_of_getElem? (i := 59) rfl)) (hw _ (List.mem_of_getElem? (i := 60) rfl)) (hw _ (List.mem_of_getElem? (i := 61) rfl)) (hw _ (List.mem_of_getElem? (i := 6) rfl)) (hw _ (List.mem_of_getElem? (i := 7) rfl)) (hw _ (List.mem_of_getElem? (i := 62) rfl)) (by decide) E52_0 (rm_off l Z a0 hw o (Int64.ofNat n) rm w T52.heap F52_3 F52_1) ⟨rfl, rfl⟩ pd_3 rfl (argsL := [(.long (Int64.ofNat n))]) (rest := [(.ref q52), (.int (0 : Int32)), (.ref ra)]) rfl rfl d12_38 (Nat.le_of_ble_eq_true rfl) (Nat.le_of_ble_eq_true rfl) (Nat.le_of_ble_eq_true rfl) (Nat.le_of_ble_eq_true rfl) (pc' := 41) rfl (fun T54 X54 e54 => ?_)
  rw [show (own_off (Int64.ofNat n) rm w) = Int32.ofNat (n * W) from own_offW hW hn]
  refine ow_aloadN C X54 d12_41 rfl rfl (pc' := 42) rfl ?_
  refine ow_getF C X54 e54 (hw _ (List.mem_of_getElem? (i := 18) rfl)) F52_1 d12_42 (pc' := 45) rfl (fun T55 X55 e55 => ?_)
  refine ow_acopy (zs := w) (zd := (16384 : Int32)) (si := 0) (di := (n * W)) (ni := W) C X55 e55 (hw _ (List.mem_of_getElem? (i := 69) rfl)) (hw _ (List.mem_of_getElem? (i := 72) rfl)) (hw _ (List.mem_of_getElem? (i := 70) rfl)) (hw _ (List.mem_of_getElem? (i := 71) rfl)) A52_ra Aq52 rfl (fun _ _ => rfl) (fun _ _ => rfl) ⟨own_wN hW, own_w0 hW⟩ ⟨by decide, by decide⟩ (by decide) (by decide) (own_ix0 (by have := own_nW hW hn; omega)) (own_ixN (by have := own_nW hW hn; omega)) (own_w0 hW) (own_wN hW) (by omega) (by have := own_nW hW hn; omega) Nn52 (Nat.le_trans Z0 hq52) rfl d12_45 (Nat.le_of_ble_eq_true rfl) (Nat.le_of_ble_eq_true rfl) (pc' := 48) rfl (fun T56 h56 L56 X56 e56 N56 K56 A56 => ?_)
  have E56_0 := E52_0.keep K56
  have F56_1 := F52_1.keep K56 (own_nm1 nq52_o)
  have F56_2 := F52_2.keep K56 (own_nm1 nq52_o)
  have F56_3 := F52_3.keep K56 (own_nm1 nq52_o)
  have F56_4 := F52_4.keep K56 (own_nm1 nq52_o)
  have F56_5 := F52_5.keep K56 (own_nm1 nq52_o)
  have V56_6 := V52_6.keep K56
  have A56_ra := A52_ra.keep K56 (own_nm1 nq52_ra)
  have A56_pp := Ap52.keep K56 (own_nm1 nq52_pp)
  have A56 : OwA Z h56 q52 .int 16384 (fun j => .int (if (n * W) ≤ j ∧ j < (n * W) + W then (gr (0 + (j - (n * W)))) else (0 : Int32))) := A56.congr (fun j _ => by split <;> rfl)
  have Z56 : n0 ≤ h56.size := Nat.le_trans Z52 K56.1
  have O56 := O52.keep K56 (own_all1 (Nat.le_trans Z0 hq52))
  have Kt56 : Keep h0 _ [o, pp] := Kt52.trans K56 (fun x hx => by simp only [List.mem_cons, List.not_mem_nil, or_false] at hx; rcases hx with rfl; exact (Or.inr (Nat.le_trans (Keep.refl h0 [o, pp]).1 hq52)))
  refine ow_aloadN C X56 d12_48 rfl rfl (pc' := 49) rfl ?_
  refine ow_dup C X56 d12_49 rfl (pc' := 50) rfl ?_
  refine ow_getF C X56 e56 (hw _ (List.mem_of_getElem? (i := 36) rfl)) F56_5 d12_50 (pc' := 53) rfl (fun T57 X57 e57 => ?_)
  refine ow_lconst (1 : Int64) C X57 d12_53 (by decide) (pc' := 54) rfl ?_
  refine ow_ladd C X57 d12_54 (pc' := 55) rfl ?_
  rw [own_len1 n]
  refine ow_putF C X57 e57 (hw _ (List.mem_of_getElem? (i := 36) rfl)) F56_5 E56_0 (Or.inl (hw _ (List.mem_of_getElem? (i := 37) rfl))) (hw _ (List.mem_of_getElem? (i := 6) rfl)) (ty := .long) (by decide) rfl rfl d12_55 (pc' := 58) rfl (fun T58 h58 X58 e58 W58 => ?_)
  have E58_0 := E56_0.wr W58
  have F58_1 := F56_1.other W58 (Or.inr (slot_ne (Or.inr (hw _ (List.mem_of_getElem? (i := 19) rfl))) (Or.inl (hw _ (List.mem_of_getElem? (i := 37) rfl))) (by decide) (t := .int) (t' := .long) (by decide) (by decide)))
  have F58_2 := F56_2.other W58 (Or.inr (slot_ne (Or.inr (hw _ (List.mem_of_getElem? (i := 28) rfl))) (Or.inl (hw _ (List.mem_of_getElem? (i := 37) rfl))) (by decide) (t := .int) (t' := .long) (by decide) (by decide)))
  have F58_3 := F56_3.other W58 (Or.inr (slot_ne (Or.inr (hw _ (List.mem_of_getElem? (i := 30) rfl))) (Or.inl (hw _ (List.mem_of_getElem? (i := 37) rfl))) (by decide) (t := .int) (t' := .long) (by decide) (by decide)))
  have F58_4 := F56_4.other W58 (Or.inr (slot_ne (Or.inl (hw _ (List.mem_of_getElem? (i := 17) rfl))) (Or.inl (hw _ (List.mem_of_getElem? (i := 37) rfl))) (by decide) (t := (.array (.array .int))) (t' := .long) (by decide) (by decide)))
  have F58_5 := F56_5.same W58
  have V58_6 := V56_6.wr W58
  have A58_ra := A56_ra.other W58 (Nat.ne_of_lt gr_)
  have A58_pp := A56_pp.other W58 (Ne.symm (Nat.ne_of_lt gp))
  have A58_q52 := A56.other W58 (Ne.symm nq52_o)
  have K58 : Keep h0 h58 [o, pp] := Kt56.wr W58 (Or.inl (by simp))
  have N58 := Fr.snoc X58 N56 go
  have Z58 : n0 ≤ h58.size := by rw [W58.size]; exact Z56
  have O58 := O56.wr W58 go
  refine ow_retV C X58 d12_58 (Nat.le_of_ble_eq_true rfl) (Nat.le_of_ble_eq_true rfl) ?_
  rw [e58]
  exact ⟨rfl, N58, q52, (fun j => (if (n * W) ≤ j ∧ j < (n * W) + W then (gr (0 + (j - (n * W)))) else (0 : Int32))), ⟨E58_0, F58_1, F58_2, F58_3, F58_4, F58_5, A58_pp, V58_6, go, gp⟩, A58_q52, Nat.lt_of_lt_of_le E.lt (Nat.le_trans (Keep.refl h0 [o, pp]).1 hq52), nq52_pp, K58, (fun j hj => if_neg (by omega)), (fun j hj => by dsimp only; rw [if_pos (by omega)]; congr 1; omega)⟩
set_option maxRecDepth 65536 in
set_option maxHeartbeats 40000000 in
theorem rm_addAF (l : Launch) (Z : State) (a0 : Array Value) (hw : ∀ d ∈ tables_1, d.before a0 Z = true) (o pp : Addr) (W : Nat) (w rb rm : Int32) (hW : OwW W w rb rm) (n : Nat) (hn : n < 4) (h0 : Heap) (n0 : Nat) (Z0 : n0 ≤ h0.size) (O0 : Old Z n0 h0) (SA : Sta Z Z.heap "com/example/quillon/quillon/exploration/IntList" "$assertionsDisabled" "Z" (.int 1)) (q : Addr) (f : Nat → Int32) (ra : Addr) (gr : Nat → Int32) (HL : OwL Z h0 n0 o pp w rb rm n (.ref q)) (Aq : OwA Z h0 q .int 16384 (fun j => .int (f j))) (gq : o < q) (npq : pp ≠ q) (Ar : OwA Z h0 ra .int W (fun j => .int (gr j))) (gr_ : ra < o) :
    OwCon l (⟨"com/example/quillon/quillon/exploration/IntList", "add", "([I)V"⟩ : MethodName) prog_38_method_5_code 2 none ({ frames := 1, cells := 0, slots := 0, locals := 30 } : Room) Z #[(.ref o), (.ref ra)] h0 (fun v h L => v = none ∧ Fr n0 L ∧ ∃ (f' : Nat → Int32), OwL Z h n0 o pp w rb rm (n + 1) (.ref q) ∧ OwA Z h q .int 16384 (fun j => .int (f' j)) ∧ Keep h0 h [o, q] ∧ (∀ j, j < n * W → f' j = f j) ∧ (∀ j, j < W → f' (n * W + j) = gr j)) := by
  obtain ⟨E, Fw, Fb, Fm, Fp, Fs, Ap, Op, go, gp⟩ := HL
  refine OwCon.of pn_12 (Ls := #[.val (.ref o), .val (.ref ra)]) (fun m => by first | (simp [entryFrame, mkF, argsToLocals, Value.category]; done) | rfl) ?_
  intro p e s m below meth c s₁ C X0 e0
  refine ow_getS C X0 e0 (hw _ (List.mem_of_getElem? (i := 52) rfl)) (SA.ext O0.2) d12_0 (pc' := 3) rfl (fun T59 X59 e59 => ?_)
  refine ow_if_ne C X59 d12_3 (pcT := 23) (pc' := 6) (by decide) (by decide) rfl (fun _ => ?_) (fun bq => absurd bq (by decide))
  refine ow_aloadN C X59 d12_23 rfl rfl (pc' := 24) rfl ?_
  refine ow_iconst (0 : Int32) C X59 d12_24 (by decide) (pc' := 25) rfl ?_
  refine ow_aloadN C X59 d12_25 rfl rfl (pc' := 26) rfl ?_
  refine ow_aloadN C X59 d12_26 rfl rfl (pc' := 27) rfl ?_
  refine ow_getF C X59 e59 (hw _ (List.mem_of_getElem? (i := 36) rfl)) Fs d12_27 (pc' := 30) rfl (fun T60 X60 e60 => ?_)
  refine ow_callR C X60 e60 (hw _ (List.mem_of_getElem? (i := 54) rfl)) (hw _ (List.mem_of_getElem? (i := 55) rfl)) (hw _ (List.mem_of_getElem? (i := 56) rfl)) (hw _ (List.mem_of_getElem? (i := 6) rfl)) (hw _ (List.mem_of_getElem? (i := 7) rfl)) (hw _ (List.mem_of_getElem? (i := 57) rfl)) (by decide) E (rm_pageF l Z a0 hw o pp W w rb rm hW n hn h0 n0 Z0 O0 SA q ⟨E, Fw, Fb, Fm, Fp, Fs, Ap, Op, go, gp⟩) pd_6 rfl (argsL := [(.long (Int64.ofNat n))]) (rest := [(.int (0 : Int32)), (.ref ra)]) rfl rfl d12_30 (Nat.le_of_ble_eq_true rfl) (Nat.le_of_ble_eq_true rfl) (Nat.le_of_ble_eq_true rfl) (Nat.le_of_ble_eq_true rfl) (pc' := 33) rfl (fun T61 v61 L61 X61 Q61 => ?_)
  obtain ⟨rfl, rfl, e61⟩ := Q61
  rw [List.append_nil] at X61
  show OwF p e below _ T61 (mkF m 33 #[.val (.ref o), .val (.ref ra)] [(.ref q), (.int (0 : Int32)), (.ref ra)])
  refine ow_aloadN C X61 d12_33 rfl rfl (pc' := 34) rfl ?_
  refine ow_aloadN C X61 d12_34 rfl rfl (pc' := 35) rfl ?_
  refine ow_getF C X61 e61 (hw _ (List.mem_of_getElem? (i := 36) rfl)) Fs d12_35 (pc' := 38) rfl (fun T62 X62 e62 => ?_)
  refine ow_callRP C X62 e62 (hw _ (List.mem_of_getElem? (i := 59) rfl)) (hw _ (List.mem_of_getElem? (i := 60) rfl)) (hw _ (List.mem_of_getElem? (i := 61) rfl)) (hw _ (List.mem_of_getElem? (i := 6) rfl)) (hw _ (List.mem_of_getElem? (i := 7) rfl)) (hw _ (List.mem_of_getElem? (i := 62) rfl)) (by decide) E (rm_off l Z a0 hw o (Int64.ofNat n) rm w h0 Fm Fw) ⟨rfl, rfl⟩ pd_3 rfl (argsL := [(.long (Int64.ofNat n))]) (rest := [(.ref q), (.int (0 : Int32)), (.ref ra)]) rfl rfl d12_38 (Nat.le_of_ble_eq_true rfl) (Nat.le_of_ble_eq_true rfl) (Nat.le_of_ble_eq_true rfl) (Nat.le_of_ble_eq_true rfl) (pc' := 41) rfl (fun T63 X63 e63 => ?_)
  rw [show (own_off (Int64.ofNat n) rm w) = Int32.ofNat (n * W) from own_offW hW hn]
  refine ow_aloadN C X63 d12_41 rfl rfl (pc' := 42) rfl ?_
  refine ow_getF C X63 e63 (hw _ (List.mem_of_getElem? (i := 18) rfl)) Fw d12_42 (pc' := 45) rfl (fun T64 X64 e64 => ?_)
  refine ow_acopy (zs := w) (zd := (16384 : Int32)) (si := 0) (di := (n * W)) (ni := W) C X64 e64 (hw _ (List.mem_of_getElem? (i := 69) rfl)) (hw _ (List.mem_of_getElem? (i := 72) rfl)) (hw _ (List.mem_of_getElem? (i := 70) rfl)) (hw _ (List.mem_of_getElem? (i := 71) rfl)) Ar Aq rfl (fun _ _ => rfl) (fun _ _ => rfl) ⟨own_wN hW, own_w0 hW⟩ ⟨by decide, by decide⟩ (by decide) (by decide) (own_ix0 (by have := own_nW hW hn; omega)) (own_ixN (by have := own_nW hW hn; omega)) (own_w0 hW) (own_wN hW) (by omega) (by have := own_nW hW hn; omega) (Fr.nil n0) (Nat.le_trans go (Nat.le_of_lt gq)) rfl d12_45 (Nat.le_of_ble_eq_true rfl) (Nat.le_of_ble_eq_true rfl) (pc' := 48) rfl (fun T65 h65 L65 X65 e65 N65 K65 A65 => ?_)
  have E65_0 := E.keep K65
  have F65_1 := Fw.keep K65 (own_nm1 (Nat.ne_of_lt gq))
  have F65_2 := Fb.keep K65 (own_nm1 (Nat.ne_of_lt gq))
  have F65_3 := Fm.keep K65 (own_nm1 (Nat.ne_of_lt gq))
  have F65_4 := Fp.keep K65 (own_nm1 (Nat.ne_of_lt gq))
  have F65_5 := Fs.keep K65 (own_nm1 (Nat.ne_of_lt gq))
  have V65_6 := Op.keep K65
  have A65_pp := Ap.keep K65 (own_nm1 npq)
  have A65_ra := Ar.keep K65 (own_nm1 (Nat.ne_of_lt (Nat.lt_trans gr_ gq)))
  have A65 : OwA Z h65 q .int 16384 (fun j => .int (if (n * W) ≤ j ∧ j < (n * W) + W then (gr (0 + (j - (n * W)))) else (f j))) := A65.congr (fun j _ => by split <;> rfl)
  have Z65 : n0 ≤ h65.size := Nat.le_trans Z0 K65.1
  have O65 := O0.keep K65 (own_all1 (Nat.le_trans go (Nat.le_of_lt gq)))
  have Kt65 : Keep h0 _ [o, q] := (Keep.refl h0 [o, q]).trans K65 (fun x hx => by simp only [List.mem_cons, List.not_mem_nil, or_false] at hx; rcases hx with rfl; exact (Or.inl (by simp)))
  refine ow_aloadN C X65 d12_48 rfl rfl (pc' := 49) rfl ?_
  refine ow_dup C X65 d12_49 rfl (pc' := 50) rfl ?_
  refine ow_getF C X65 e65 (hw _ (List.mem_of_getElem? (i := 36) rfl)) F65_5 d12_50 (pc' := 53) rfl (fun T66 X66 e66 => ?_)
  refine ow_lconst (1 : Int64) C X66 d12_53 (by decide) (pc' := 54) rfl ?_
  refine ow_ladd C X66 d12_54 (pc' := 55) rfl ?_
  rw [own_len1 n]
  refine ow_putF C X66 e66 (hw _ (List.mem_of_getElem? (i := 36) rfl)) F65_5 E65_0 (Or.inl (hw _ (List.mem_of_getElem? (i := 37) rfl))) (hw _ (List.mem_of_getElem? (i := 6) rfl)) (ty := .long) (by decide) rfl rfl d12_55 (pc' := 58) rfl (fun T67 h67 X67 e67 W67 => ?_)
  have E67_0 := E65_0.wr W67
  have F67_1 := F65_1.other W67 (Or.inr (slot_ne (Or.inr (hw _ (List.mem_of_getElem? (i := 19) rfl))) (Or.inl (hw _ (List.mem_of_getElem? (i := 37) rfl))) (by decide) (t := .int) (t' := .long) (by decide) (by decide)))
  have F67_2 := F65_2.other W67 (Or.inr (slot_ne (Or.inr (hw _ (List.mem_of_getElem? (i := 28) rfl))) (Or.inl (hw _ (List.mem_of_getElem? (i := 37) rfl))) (by decide) (t := .int) (t' := .long) (by decide) (by decide)))
  have F67_3 := F65_3.other W67 (Or.inr (slot_ne (Or.inr (hw _ (List.mem_of_getElem? (i := 30) rfl))) (Or.inl (hw _ (List.mem_of_getElem? (i := 37) rfl))) (by decide) (t := .int) (t' := .long) (by decide) (by decide)))
  have F67_4 := F65_4.other W67 (Or.inr (slot_ne (Or.inl (hw _ (List.mem_of_getElem? (i := 17) rfl))) (Or.inl (hw _ (List.mem_of_getElem? (i := 37) rfl))) (by decide) (t := (.array (.array .int))) (t' := .long) (by decide) (by decide)))
  have F67_5 := F65_5.same W67
  have V67_6 := V65_6.wr W67
  have A67_pp := A65_pp.other W67 (Ne.symm (Nat.ne_of_lt gp))
  have A67_ra := A65_ra.other W67 (Nat.ne_of_lt gr_)
  have A67_q := A65.other W67 (Ne.symm (Nat.ne_of_lt gq))
  have K67 : Keep h0 h67 [o, q] := Kt65.wr W67 (Or.inl (by simp))
  have N67 := Fr.snoc X67 N65 go
  have Z67 : n0 ≤ h67.size := by rw [W67.size]; exact Z65
  have O67 := O65.wr W67 go
  refine ow_retV C X67 d12_58 (Nat.le_of_ble_eq_true rfl) (Nat.le_of_ble_eq_true rfl) ?_
  rw [e67]
  exact ⟨rfl, N67, (fun j => (if (n * W) ≤ j ∧ j < (n * W) + W then (gr (0 + (j - (n * W)))) else (f j))), ⟨E67_0, F67_1, F67_2, F67_3, F67_4, F67_5, A67_pp, V67_6, go, gp⟩, A67_q, K67, (fun j hj => if_neg (by omega)), (fun j hj => by dsimp only; rw [if_pos (by omega)]; congr 1; omega)⟩
theorem own_sumI (a d : Nat) : Int32.ofNat a + Int32.ofNat d = Int32.ofNat (a + d) := by rw [Int32.ofNat_add]
theorem own_mono {k n W : Nat} (h : k < n) : k * W + W ≤ n * W := by have := Nat.mul_le_mul_right W (show k + 1 ≤ n by omega); rw [Nat.add_mul] at this; omega
theorem d14_0 : decode prog_38_method_7_code 0 = .ok (.aload_n 0, 1) := by decide +kernel
theorem d14_1 : decode prog_38_method_7_code 1 = .ok (.lload_n 1, 1) := by decide +kernel
theorem d14_2 : decode prog_38_method_7_code 2 = .ok (.invokevirtual 78, 3) := by decide +kernel
theorem d14_5 : decode prog_38_method_7_code 5 = .ok (.aload_n 0, 1) := by decide +kernel
theorem d14_6 : decode prog_38_method_7_code 6 = .ok (.getfield 14, 3) := by decide +kernel
theorem d14_9 : decode prog_38_method_7_code 9 = .ok (.lload_n 1, 1) := by decide +kernel
theorem d14_10 : decode prog_38_method_7_code 10 = .ok (.aload_n 0, 1) := by decide +kernel
theorem d14_11 : decode prog_38_method_7_code 11 = .ok (.getfield 43, 3) := by decide +kernel
theorem d14_14 : decode prog_38_method_7_code 14 = .ok (.lushr, 1) := by decide +kernel
theorem d14_15 : decode prog_38_method_7_code 15 = .ok (.l2i, 1) := by decide +kernel
theorem d14_16 : decode prog_38_method_7_code 16 = .ok (.aaload, 1) := by decide +kernel
theorem d14_17 : decode prog_38_method_7_code 17 = .ok (.aload_n 0, 1) := by decide +kernel
theorem d14_18 : decode prog_38_method_7_code 18 = .ok (.lload_n 1, 1) := by decide +kernel
theorem d14_19 : decode prog_38_method_7_code 19 = .ok (.invokevirtual 64, 3) := by decide +kernel
theorem d14_22 : decode prog_38_method_7_code 22 = .ok (.iload_n 3, 1) := by decide +kernel
theorem d14_23 : decode prog_38_method_7_code 23 = .ok (.iadd, 1) := by decide +kernel
theorem d14_24 : decode prog_38_method_7_code 24 = .ok (.iaload, 1) := by decide +kernel
theorem d14_25 : decode prog_38_method_7_code 25 = .ok (.ireturn, 1) := by decide +kernel
theorem pn_14 : plainFor (⟨"com/example/quillon/quillon/exploration/IntList", "get", "(JI)I"⟩ : MethodName) = true := by first | exact plainFor_of_name (by first | (simp [plainName, overriddenIn]; done) | decide +kernel) | decide +kernel
theorem pd_9 : parseMethodDescriptor "(JI)I" = some ⟨[.long, .int], (some .int)⟩ := by decide +kernel
set_option maxRecDepth 65536 in
set_option maxHeartbeats 40000000 in
theorem rm_get2 (l : Launch) (Z : State) (a0 : Array Value) (hw : ∀ d ∈ tables_1, d.before a0 Z = true) (o pp : Addr) (W : Nat) (w rb rm : Int32) (hW : OwW W w rb rm) (n : Nat) (hn : n < 4) (h0 : Heap) (n0 : Nat) (Z0 : n0 ≤ h0.size) (O0 : Old Z n0 h0) (SA : Sta Z Z.heap "com/example/quillon/quillon/exploration/IntList" "$assertionsDisabled" "Z" (.int 1)) (q : Addr) (f : Nat → Int32) (k : Nat) (hk : k < 4) (d : Nat) (hdW : d < W) (HL : OwL Z h0 n0 o pp w rb rm n (.ref q)) (Aq : OwA Z h0 q .int 16384 (fun j => .int (f j))) (gq : o < q) (npq : pp ≠ q) :
    OwCon l (⟨"com/example/quillon/quillon/exploration/IntList", "get", "(JI)I"⟩ : MethodName) prog_38_method_7_code 4 (some .int) ({ frames := 1, cells := 0, slots := 0, locals := 15 } : Room) Z #[(.ref o), (.long (Int64.ofNat k)), (.int (Int32.ofNat d))] h0 (OwP (some (.int (f (k * W + d)))) h0) := by
  obtain ⟨E, Fw, Fb, Fm, Fp, Fs, Ap, Op, go, gp⟩ := HL
  refine OwCon.of pn_14 (Ls := #[.val (.ref o), .val (.long (Int64.ofNat k)), .second, .val (.int (Int32.ofNat d))]) (fun m => by first | (simp [entryFrame, mkF, argsToLocals, Value.category]; done) | rfl) ?_
  intro p e s m below meth c s₁ C X0 e0
  refine ow_aloadN C X0 d14_0 rfl rfl (pc' := 1) rfl ?_
  refine ow_lloadN C X0 d14_1 rfl (pc' := 2) rfl ?_
  refine ow_callR C X0 e0 (hw _ (List.mem_of_getElem? (i := 83) rfl)) (hw _ (List.mem_of_getElem? (i := 84) rfl)) (hw _ (List.mem_of_getElem? (i := 85) rfl)) (hw _ (List.mem_of_getElem? (i := 6) rfl)) (hw _ (List.mem_of_getElem? (i := 7) rfl)) (hw _ (List.mem_of_getElem? (i := 86) rfl)) (by decide) E (rm_chk l Z a0 hw o (Int64.ofNat k) h0 n0 O0 SA) pd_7 rfl (argsL := [(.long (Int64.ofNat k))]) (rest := []) rfl rfl d14_2 (Nat.le_of_ble_eq_true rfl) (Nat.le_of_ble_eq_true rfl) (Nat.le_of_ble_eq_true rfl) (Nat.le_of_ble_eq_true rfl) (pc' := 5) rfl (fun T68 v68 L68 X68 Q68 => ?_)
  obtain ⟨rfl, rfl, e68⟩ := Q68
  rw [List.append_nil] at X68
  show OwF p e below _ T68 (mkF m 5 #[.val (.ref o), .val (.long (Int64.ofNat k)), .second, .val (.int (Int32.ofNat d))] [])
  refine ow_aloadN C X68 d14_5 rfl rfl (pc' := 6) rfl ?_
  refine ow_getF C X68 e68 (hw _ (List.mem_of_getElem? (i := 16) rfl)) Fp d14_6 (pc' := 9) rfl (fun T69 X69 e69 => ?_)
  refine ow_lloadN C X69 d14_9 rfl (pc' := 10) rfl ?_
  refine ow_aloadN C X69 d14_10 rfl rfl (pc' := 11) rfl ?_
  refine ow_getF C X69 e69 (hw _ (List.mem_of_getElem? (i := 27) rfl)) Fb d14_11 (pc' := 14) rfl (fun T70 X70 e70 => ?_)
  refine ow_lushr C X70 d14_14 (pc' := 15) rfl ?_
  refine ow_l2i C X70 d14_15 (pc' := 16) rfl ?_
  rw [show (XT.ushrL (Int64.ofNat k) rb).toInt32 = (0 : Int32) from own_ix hW hk]
  refine ow_aaload (i := 0) C X70 e70 Ap rfl (by decide) (by decide) (Nat.le_of_ble_eq_true rfl) (v := (.ref q)) rfl d14_16 (pc' := 17) rfl ?_
  refine ow_aloadN C X70 d14_17 rfl rfl (pc' := 18) rfl ?_
  refine ow_lloadN C X70 d14_18 rfl (pc' := 19) rfl ?_
  refine ow_callRP C X70 e70 (hw _ (List.mem_of_getElem? (i := 59) rfl)) (hw _ (List.mem_of_getElem? (i := 60) rfl)) (hw _ (List.mem_of_getElem? (i := 61) rfl)) (hw _ (List.mem_of_getElem? (i := 6) rfl)) (hw _ (List.mem_of_getElem? (i := 7) rfl)) (hw _ (List.mem_of_getElem? (i := 62) rfl)) (by decide) E (rm_off l Z a0 hw o (Int64.ofNat k) rm w h0 Fm Fw) ⟨rfl, rfl⟩ pd_3 rfl (argsL := [(.long (Int64.ofNat k))]) (rest := [(.ref q)]) rfl rfl d14_19 (Nat.le_of_ble_eq_true rfl) (Nat.le_of_ble_eq_true rfl) (Nat.le_of_ble_eq_true rfl) (Nat.le_of_ble_eq_true rfl) (pc' := 22) rfl (fun T71 X71 e71 => ?_)
  rw [show (own_off (Int64.ofNat k) rm w) = Int32.ofNat (k * W) from own_offW hW hk]
  refine ow_iloadN C X71 d14_22 rfl (pc' := 23) rfl ?_
  refine ow_iadd C X71 d14_23 (pc' := 24) rfl ?_
  rw [own_sumI (k * W) d]
  refine ow_iaload (i := (k * W + d)) C X71 e71 Aq (own_ix0 (by have := own_nW hW hk; omega)) (own_ixN (by have := own_nW hW hk; omega)) (by have := own_nW hW hk; omega) (v := (.int (f (k * W + d)))) rfl d14_24 (pc' := 25) rfl ?_
  exact ow_retI C X71 d14_25 (Nat.le_of_ble_eq_true rfl) (Nat.le_of_ble_eq_true rfl) ⟨rfl, rfl, e71⟩
theorem d13_0 : decode prog_38_method_6_code 0 = .ok (.aload_n 0, 1) := by decide +kernel
theorem d13_1 : decode prog_38_method_6_code 1 = .ok (.lload_n 1, 1) := by decide +kernel
theorem d13_2 : decode prog_38_method_6_code 2 = .ok (.iconst 0, 1) := by decide +kernel
theorem d13_3 : decode prog_38_method_6_code 3 = .ok (.invokevirtual 74, 3) := by decide +kernel
theorem d13_6 : decode prog_38_method_6_code 6 = .ok (.ireturn, 1) := by decide +kernel
theorem pn_13 : plainFor (⟨"com/example/quillon/quillon/exploration/IntList", "get", "(J)I"⟩ : MethodName) = true := by first | exact plainFor_of_name (by first | (simp [plainName, overriddenIn]; done) | decide +kernel) | decide +kernel
set_option maxRecDepth 65536 in
set_option maxHeartbeats 40000000 in
theorem rm_get1 (l : Launch) (Z : State) (a0 : Array Value) (hw : ∀ d ∈ tables_1, d.before a0 Z = true) (o pp : Addr) (W : Nat) (w rb rm : Int32) (hW : OwW W w rb rm) (n : Nat) (hn : n < 4) (h0 : Heap) (n0 : Nat) (Z0 : n0 ≤ h0.size) (O0 : Old Z n0 h0) (SA : Sta Z Z.heap "com/example/quillon/quillon/exploration/IntList" "$assertionsDisabled" "Z" (.int 1)) (q : Addr) (f : Nat → Int32) (k : Nat) (hk : k < 4) (HL : OwL Z h0 n0 o pp w rb rm n (.ref q)) (Aq : OwA Z h0 q .int 16384 (fun j => .int (f j))) (gq : o < q) (npq : pp ≠ q) :
    OwCon l (⟨"com/example/quillon/quillon/exploration/IntList", "get", "(J)I"⟩ : MethodName) prog_38_method_6_code 3 (some .int) ({ frames := 2, cells := 0, slots := 0, locals := 30 } : Room) Z #[(.ref o), (.long (Int64.ofNat k))] h0 (OwP (some (.int (f (k * W + 0)))) h0) := by
  obtain ⟨E, Fw, Fb, Fm, Fp, Fs, Ap, Op, go, gp⟩ := HL
  refine OwCon.of pn_13 (Ls := #[.val (.ref o), .val (.long (Int64.ofNat k)), .second]) (fun m => by first | (simp [entryFrame, mkF, argsToLocals, Value.category]; done) | rfl) ?_
  intro p e s m below meth c s₁ C X0 e0
  refine ow_aloadN C X0 d13_0 rfl rfl (pc' := 1) rfl ?_
  refine ow_lloadN C X0 d13_1 rfl (pc' := 2) rfl ?_
  refine ow_iconst (0 : Int32) C X0 d13_2 (by decide) (pc' := 3) rfl ?_
  refine ow_callV C X0 e0 (hw _ (List.mem_of_getElem? (i := 78) rfl)) (hw _ (List.mem_of_getElem? (i := 79) rfl)) (hw _ (List.mem_of_getElem? (i := 81) rfl)) rfl (hw _ (List.mem_of_getElem? (i := 80) rfl)) (hw _ (List.mem_of_getElem? (i := 7) rfl)) (hw _ (List.mem_of_getElem? (i := 82) rfl)) (by decide) E (rm_get2 l Z a0 hw o pp W w rb rm hW n hn h0 n0 Z0 O0 SA q f k hk 0 (by have := own_W4 hW; omega) ⟨E, Fw, Fb, Fm, Fp, Fs, Ap, Op, go, gp⟩ Aq gq npq) pd_9 rfl (argsL := [(.long (Int64.ofNat k)), (.int (0 : Int32))]) (rest := []) rfl rfl d13_3 (Nat.le_of_ble_eq_true rfl) (Nat.le_of_ble_eq_true rfl) (Nat.le_of_ble_eq_true rfl) (Nat.le_of_ble_eq_true rfl) (pc' := 6) rfl (fun T72 v72 L72 X72 Q72 => ?_)
  obtain ⟨rfl, rfl, e72⟩ := Q72
  rw [List.append_nil] at X72
  show OwF p e below _ T72 (mkF m 6 #[.val (.ref o), .val (.long (Int64.ofNat k)), .second] [(.int (f (k * W + 0)))])
  exact ow_retI C X72 d13_6 (Nat.le_of_ble_eq_true rfl) (Nat.le_of_ble_eq_true rfl) ⟨rfl, rfl, e72⟩
def OwS (Z : State) (h : Heap) (n0 : Nat) (o : Addr) (w rb rm : Int32) (n : Nat) (f : Nat → Int32) : Prop := (n = 0 ∧ ∃ pp, OwL Z h n0 o pp w rb rm 0 .null) ∨ (0 < n ∧ ∃ pp q, OwL Z h n0 o pp w rb rm n (.ref q) ∧ OwA Z h q .int 16384 (fun j => .int (f j)) ∧ o < q ∧ pp ≠ q)
def OwKp (h0 h : Heap) (o : Addr) : Prop := ∃ ws : List Addr, (∀ x ∈ ws, o ≤ x) ∧ Keep h0 h ws
theorem own_ge2 {o a : Addr} (h : o < a) : ∀ x ∈ [o, a], o ≤ x := fun x q => by
  simp only [List.mem_cons, List.not_mem_nil, or_false] at q
  rcases q with rfl | rfl
  · exact Nat.le_refl _
  · exact Nat.le_of_lt h
theorem d8_0 : decode method_2_code 0 = .ok (.iload_n 1, 1) := by decide +kernel
theorem d8_1 : decode method_2_code 1 = .ok (.ifCond .eq 11, 3) := by decide +kernel
theorem d8_4 : decode method_2_code 4 = .ok (.aload_n 0, 1) := by decide +kernel
theorem d8_5 : decode method_2_code 5 = .ok (.aload_n 2, 1) := by decide +kernel
theorem d8_6 : decode method_2_code 6 = .ok (.invokevirtual 7, 3) := by decide +kernel
theorem d8_9 : decode method_2_code 9 = .ok (.goto 10, 3) := by decide +kernel
theorem d8_12 : decode method_2_code 12 = .ok (.aload_n 0, 1) := by decide +kernel
theorem d8_13 : decode method_2_code 13 = .ok (.aload_n 2, 1) := by decide +kernel
theorem d8_14 : decode method_2_code 14 = .ok (.iconst 0, 1) := by decide +kernel
theorem d8_15 : decode method_2_code 15 = .ok (.iaload, 1) := by decide +kernel
theorem d8_16 : decode method_2_code 16 = .ok (.invokevirtual 13, 3) := by decide +kernel
theorem d8_19 : decode method_2_code 19 = .ok (.return_, 1) := by decide +kernel
theorem pn_8 : plainFor (⟨"com/example/quillon/quillon/exploration/IntListClearPinLaw", "put", "(Lcom/example/quillon/quillon/exploration/IntList;Z[I)V"⟩ : MethodName) = true := by first | exact plainFor_of_name (by first | (simp [plainName, overriddenIn]; done) | decide +kernel) | decide +kernel
theorem pd_10 : parseMethodDescriptor "(Lcom/example/quillon/quillon/exploration/IntList;Z[I)V" = some ⟨[(.object "com/example/quillon/quillon/exploration/IntList"), .boolean, (.array .int)], none⟩ := by decide +kernel
set_option maxRecDepth 65536 in
set_option maxHeartbeats 40000000 in
theorem rm_put1E (l : Launch) (Z : State) (a0 : Array Value) (hw : ∀ d ∈ tables_1, d.before a0 Z = true) (o : Addr) (W : Nat) (w rb rm : Int32) (hW : OwW W w rb rm) (hWk : W = 1) (n : Nat) (hn : n < 4) (f : Nat → Int32) (ra : Addr) (gr : Nat → Int32) (h0 : Heap) (n0 : Nat) (Z0 : n0 ≤ h0.size) (O0 : Old Z n0 h0) (SA : Sta Z Z.heap "com/example/quillon/quillon/exploration/IntList" "$assertionsDisabled" "Z" (.int 1)) (hpos : n = 0) (S : OwS Z h0 n0 o w rb rm n f) (Ar : OwA Z h0 ra .int W (fun j => .int (gr j))) (gr_ : ra < o) :
    OwCon l (⟨"com/example/quillon/quillon/exploration/IntListClearPinLaw", "put", "(Lcom/example/quillon/quillon/exploration/IntList;Z[I)V"⟩ : MethodName) method_2_code 3 none ({ frames := 2, cells := 1, slots := 16384, locals := 28 } : Room) Z #[(.ref o), (.int (0 : Int32)), (.ref ra)] h0 (fun v h L => v = none ∧ Fr n0 L ∧ OwKp h0 h o ∧ ∃ f', OwS Z h n0 o w rb rm (n + 1) f' ∧ (∀ j, j < n * W → f' j = f j) ∧ (∀ j, j < W → f' (n * W + j) = gr j)) := by
  subst hpos
  obtain ⟨pp, HL⟩ : ∃ pp, OwL Z h0 n0 o pp w rb rm 0 .null := by
    rcases S with ⟨-, w_⟩ | ⟨w_, -⟩
    · exact w_
    · omega
  obtain ⟨E, Fw, Fb, Fm, Fp, Fs, Ap, Op, go, gp⟩ := HL
  refine OwCon.of pn_8 (Ls := #[.val (.ref o), .val (.int (0 : Int32)), .val (.ref ra)]) (fun m => by first | (simp [entryFrame, mkF, argsToLocals, Value.category]; done) | rfl) ?_
  intro p e s m below meth c s₁ C X0 e0
  refine ow_iloadN C X0 d8_0 rfl (pc' := 1) rfl ?_
  refine ow_if_eq C X0 d8_1 (pcT := 12) (pc' := 4) (by decide) (by decide) rfl (fun _ => ?_) (fun bq => absurd (by decide) bq)
  refine ow_aloadN C X0 d8_12 rfl rfl (pc' := 13) rfl ?_
  refine ow_aloadN C X0 d8_13 rfl rfl (pc' := 14) rfl ?_
  refine ow_iconst (0 : Int32) C X0 d8_14 (by decide) (pc' := 15) rfl ?_
  refine ow_iaload (i := 0) C X0 e0 Ar (by decide) (by decide) (by have := own_W4 hW; omega) (v := (.int (gr 0))) rfl d8_15 (pc' := 16) rfl ?_
  refine ow_callV C X0 e0 (hw _ (List.mem_of_getElem? (i := 47) rfl)) (hw _ (List.mem_of_getElem? (i := 48) rfl)) (hw _ (List.mem_of_getElem? (i := 50) rfl)) rfl (hw _ (List.mem_of_getElem? (i := 49) rfl)) (hw _ (List.mem_of_getElem? (i := 7) rfl)) (hw _ (List.mem_of_getElem? (i := 51) rfl)) (by decide) E (rm_addIE l Z a0 hw o pp W w rb rm hW 0 (by decide) h0 n0 Z0 O0 SA (gr 0) ⟨E, Fw, Fb, Fm, Fp, Fs, Ap, Op, go, gp⟩) pd_4 rfl (argsL := [(.int (gr 0))]) (rest := []) rfl rfl d8_16 (Nat.le_of_ble_eq_true rfl) (Nat.le_of_ble_eq_true rfl) (Nat.le_of_ble_eq_true rfl) (Nat.le_of_ble_eq_true rfl) (pc' := 19) rfl (fun T73 v73 L73 X73 Q73 => ?_)
  obtain ⟨rfl, N73, q73, f73, HL73, Aq73, gq73, npq73, K73, u73, v73⟩ := Q73
  have Nn73 := Fr.app (Fr.nil n0) N73
  show OwF p e below _ T73 (mkF m 19 #[.val (.ref o), .val (.int (0 : Int32)), .val (.ref ra)] [])
  refine ow_retV C X73 d8_19 (Nat.le_of_ble_eq_true rfl) (Nat.le_of_ble_eq_true rfl) ?_
  exact ⟨rfl, Nn73, ⟨_, own_ge2 gp, K73⟩, f73, Or.inr ⟨by omega, pp, q73, HL73, Aq73, gq73, npq73⟩, (fun j hj => absurd hj (by omega)), (fun j hj => by have hj0 : j = 0 := (by omega); subst hj0; exact v73)⟩
set_option maxRecDepth 65536 in
set_option maxHeartbeats 40000000 in
theorem rm_put1F (l : Launch) (Z : State) (a0 : Array Value) (hw : ∀ d ∈ tables_1, d.before a0 Z = true) (o : Addr) (W : Nat) (w rb rm : Int32) (hW : OwW W w rb rm) (hWk : W = 1) (n : Nat) (hn : n < 4) (f : Nat → Int32) (ra : Addr) (gr : Nat → Int32) (h0 : Heap) (n0 : Nat) (Z0 : n0 ≤ h0.size) (O0 : Old Z n0 h0) (SA : Sta Z Z.heap "com/example/quillon/quillon/exploration/IntList" "$assertionsDisabled" "Z" (.int 1)) (hpos : 0 < n) (S : OwS Z h0 n0 o w rb rm n f) (Ar : OwA Z h0 ra .int W (fun j => .int (gr j))) (gr_ : ra < o) :
    OwCon l (⟨"com/example/quillon/quillon/exploration/IntListClearPinLaw", "put", "(Lcom/example/quillon/quillon/exploration/IntList;Z[I)V"⟩ : MethodName) method_2_code 3 none ({ frames := 2, cells := 0, slots := 0, locals := 28 } : Room) Z #[(.ref o), (.int (0 : Int32)), (.ref ra)] h0 (fun v h L => v = none ∧ Fr n0 L ∧ OwKp h0 h o ∧ ∃ f', OwS Z h n0 o w rb rm (n + 1) f' ∧ (∀ j, j < n * W → f' j = f j) ∧ (∀ j, j < W → f' (n * W + j) = gr j)) := by
  obtain ⟨pp, q, HL, Aq, gq, npq⟩ : ∃ pp q, OwL Z h0 n0 o pp w rb rm n (.ref q) ∧ OwA Z h0 q .int 16384 (fun j => .int (f j)) ∧ o < q ∧ pp ≠ q := by
    rcases S with ⟨w_, -⟩ | ⟨-, w_⟩
    · omega
    · exact w_
  obtain ⟨E, Fw, Fb, Fm, Fp, Fs, Ap, Op, go, gp⟩ := HL
  refine OwCon.of pn_8 (Ls := #[.val (.ref o), .val (.int (0 : Int32)), .val (.ref ra)]) (fun m => by first | (simp [entryFrame, mkF, argsToLocals, Value.category]; done) | rfl) ?_
  intro p e s m below meth c s₁ C X0 e0
  refine ow_iloadN C X0 d8_0 rfl (pc' := 1) rfl ?_
  refine ow_if_eq C X0 d8_1 (pcT := 12) (pc' := 4) (by decide) (by decide) rfl (fun _ => ?_) (fun bq => absurd (by decide) bq)
  refine ow_aloadN C X0 d8_12 rfl rfl (pc' := 13) rfl ?_
  refine ow_aloadN C X0 d8_13 rfl rfl (pc' := 14) rfl ?_
  refine ow_iconst (0 : Int32) C X0 d8_14 (by decide) (pc' := 15) rfl ?_
  refine ow_iaload (i := 0) C X0 e0 Ar (by decide) (by decide) (by have := own_W4 hW; omega) (v := (.int (gr 0))) rfl d8_15 (pc' := 16) rfl ?_
  refine ow_callV C X0 e0 (hw _ (List.mem_of_getElem? (i := 47) rfl)) (hw _ (List.mem_of_getElem? (i := 48) rfl)) (hw _ (List.mem_of_getElem? (i := 50) rfl)) rfl (hw _ (List.mem_of_getElem? (i := 49) rfl)) (hw _ (List.mem_of_getElem? (i := 7) rfl)) (hw _ (List.mem_of_getElem? (i := 51) rfl)) (by decide) E (rm_addIF l Z a0 hw o pp W w rb rm hW n hn h0 n0 Z0 O0 SA q f (gr 0) ⟨E, Fw, Fb, Fm, Fp, Fs, Ap, Op, go, gp⟩ Aq gq npq) pd_4 rfl (argsL := [(.int (gr 0))]) (rest := []) rfl rfl d8_16 (Nat.le_of_ble_eq_true rfl) (Nat.le_of_ble_eq_true rfl) (Nat.le_of_ble_eq_true rfl) (Nat.le_of_ble_eq_true rfl) (pc' := 19) rfl (fun T74 v74 L74 X74 Q74 => ?_)
  obtain ⟨rfl, N74, f74, HL74, Aq74, K74, u74, v74⟩ := Q74
  have Nn74 := Fr.app (Fr.nil n0) N74
  show OwF p e below _ T74 (mkF m 19 #[.val (.ref o), .val (.int (0 : Int32)), .val (.ref ra)] [])
  refine ow_retV C X74 d8_19 (Nat.le_of_ble_eq_true rfl) (Nat.le_of_ble_eq_true rfl) ?_
  exact ⟨rfl, Nn74, ⟨_, own_ge2 gq, K74⟩, f74, Or.inr ⟨by omega, pp, q, HL74, Aq74, gq, npq⟩, u74, (fun j hj => by have hj0 : j = 0 := (by omega); subst hj0; exact v74)⟩
set_option maxRecDepth 65536 in
set_option maxHeartbeats 40000000 in
theorem rm_put2E (l : Launch) (Z : State) (a0 : Array Value) (hw : ∀ d ∈ tables_1, d.before a0 Z = true) (o : Addr) (W : Nat) (w rb rm : Int32) (hW : OwW W w rb rm) (hWk : W = 2) (n : Nat) (hn : n < 4) (f : Nat → Int32) (ra : Addr) (gr : Nat → Int32) (h0 : Heap) (n0 : Nat) (Z0 : n0 ≤ h0.size) (O0 : Old Z n0 h0) (SA : Sta Z Z.heap "com/example/quillon/quillon/exploration/IntList" "$assertionsDisabled" "Z" (.int 1)) (hpos : n = 0) (S : OwS Z h0 n0 o w rb rm n f) (Ar : OwA Z h0 ra .int W (fun j => .int (gr j))) (gr_ : ra < o) :
    OwCon l (⟨"com/example/quillon/quillon/exploration/IntListClearPinLaw", "put", "(Lcom/example/quillon/quillon/exploration/IntList;Z[I)V"⟩ : MethodName) method_2_code 3 none ({ frames := 2, cells := 1, slots := 16384, locals := 43 } : Room) Z #[(.ref o), (.int (1 : Int32)), (.ref ra)] h0 (fun v h L => v = none ∧ Fr n0 L ∧ OwKp h0 h o ∧ ∃ f', OwS Z h n0 o w rb rm (n + 1) f' ∧ (∀ j, j < n * W → f' j = f j) ∧ (∀ j, j < W → f' (n * W + j) = gr j)) := by
  subst hpos
  obtain ⟨pp, HL⟩ : ∃ pp, OwL Z h0 n0 o pp w rb rm 0 .null := by
    rcases S with ⟨-, w_⟩ | ⟨w_, -⟩
    · exact w_
    · omega
  obtain ⟨E, Fw, Fb, Fm, Fp, Fs, Ap, Op, go, gp⟩ := HL
  refine OwCon.of pn_8 (Ls := #[.val (.ref o), .val (.int (1 : Int32)), .val (.ref ra)]) (fun m => by first | (simp [entryFrame, mkF, argsToLocals, Value.category]; done) | rfl) ?_
  intro p e s m below meth c s₁ C X0 e0
  refine ow_iloadN C X0 d8_0 rfl (pc' := 1) rfl ?_
  refine ow_if_eq C X0 d8_1 (pcT := 12) (pc' := 4) (by decide) (by decide) rfl (fun bq => absurd bq (by decide)) (fun _ => ?_)
  refine ow_aloadN C X0 d8_4 rfl rfl (pc' := 5) rfl ?_
  refine ow_aloadN C X0 d8_5 rfl rfl (pc' := 6) rfl ?_
  refine ow_callV C X0 e0 (hw _ (List.mem_of_getElem? (i := 64) rfl)) (hw _ (List.mem_of_getElem? (i := 65) rfl)) (hw _ (List.mem_of_getElem? (i := 67) rfl)) rfl (hw _ (List.mem_of_getElem? (i := 66) rfl)) (hw _ (List.mem_of_getElem? (i := 7) rfl)) (hw _ (List.mem_of_getElem? (i := 68) rfl)) (by decide) E (rm_addAE l Z a0 hw o pp W w rb rm hW 0 (by decide) h0 n0 Z0 O0 SA ra gr ⟨E, Fw, Fb, Fm, Fp, Fs, Ap, Op, go, gp⟩ Ar gr_) pd_8 rfl (argsL := [(.ref ra)]) (rest := []) rfl rfl d8_6 (Nat.le_of_ble_eq_true rfl) (Nat.le_of_ble_eq_true rfl) (Nat.le_of_ble_eq_true rfl) (Nat.le_of_ble_eq_true rfl) (pc' := 9) rfl (fun T75 v75 L75 X75 Q75 => ?_)
  obtain ⟨rfl, N75, q75, f75, HL75, Aq75, gq75, npq75, K75, u75, v75⟩ := Q75
  have Nn75 := Fr.app (Fr.nil n0) N75
  show OwF p e below _ T75 (mkF m 9 #[.val (.ref o), .val (.int (1 : Int32)), .val (.ref ra)] [])
  refine ow_goto C X75 d8_9 (pcT := 19) (by decide) (by decide) ?_
  refine ow_retV C X75 d8_19 (Nat.le_of_ble_eq_true rfl) (Nat.le_of_ble_eq_true rfl) ?_
  exact ⟨rfl, Nn75, ⟨_, own_ge2 gp, K75⟩, f75, Or.inr ⟨by omega, pp, q75, HL75, Aq75, gq75, npq75⟩, (fun j hj => absurd hj (by omega)), v75⟩
set_option maxRecDepth 65536 in
set_option maxHeartbeats 40000000 in
theorem rm_put2F (l : Launch) (Z : State) (a0 : Array Value) (hw : ∀ d ∈ tables_1, d.before a0 Z = true) (o : Addr) (W : Nat) (w rb rm : Int32) (hW : OwW W w rb rm) (hWk : W = 2) (n : Nat) (hn : n < 4) (f : Nat → Int32) (ra : Addr) (gr : Nat → Int32) (h0 : Heap) (n0 : Nat) (Z0 : n0 ≤ h0.size) (O0 : Old Z n0 h0) (SA : Sta Z Z.heap "com/example/quillon/quillon/exploration/IntList" "$assertionsDisabled" "Z" (.int 1)) (hpos : 0 < n) (S : OwS Z h0 n0 o w rb rm n f) (Ar : OwA Z h0 ra .int W (fun j => .int (gr j))) (gr_ : ra < o) :
    OwCon l (⟨"com/example/quillon/quillon/exploration/IntListClearPinLaw", "put", "(Lcom/example/quillon/quillon/exploration/IntList;Z[I)V"⟩ : MethodName) method_2_code 3 none ({ frames := 2, cells := 0, slots := 0, locals := 43 } : Room) Z #[(.ref o), (.int (1 : Int32)), (.ref ra)] h0 (fun v h L => v = none ∧ Fr n0 L ∧ OwKp h0 h o ∧ ∃ f', OwS Z h n0 o w rb rm (n + 1) f' ∧ (∀ j, j < n * W → f' j = f j) ∧ (∀ j, j < W → f' (n * W + j) = gr j)) := by
  obtain ⟨pp, q, HL, Aq, gq, npq⟩ : ∃ pp q, OwL Z h0 n0 o pp w rb rm n (.ref q) ∧ OwA Z h0 q .int 16384 (fun j => .int (f j)) ∧ o < q ∧ pp ≠ q := by
    rcases S with ⟨w_, -⟩ | ⟨-, w_⟩
    · omega
    · exact w_
  obtain ⟨E, Fw, Fb, Fm, Fp, Fs, Ap, Op, go, gp⟩ := HL
  refine OwCon.of pn_8 (Ls := #[.val (.ref o), .val (.int (1 : Int32)), .val (.ref ra)]) (fun m => by first | (simp [entryFrame, mkF, argsToLocals, Value.category]; done) | rfl) ?_
  intro p e s m below meth c s₁ C X0 e0
  refine ow_iloadN C X0 d8_0 rfl (pc' := 1) rfl ?_
  refine ow_if_eq C X0 d8_1 (pcT := 12) (pc' := 4) (by decide) (by decide) rfl (fun bq => absurd bq (by decide)) (fun _ => ?_)
  refine ow_aloadN C X0 d8_4 rfl rfl (pc' := 5) rfl ?_
  refine ow_aloadN C X0 d8_5 rfl rfl (pc' := 6) rfl ?_
  refine ow_callV C X0 e0 (hw _ (List.mem_of_getElem? (i := 64) rfl)) (hw _ (List.mem_of_getElem? (i := 65) rfl)) (hw _ (List.mem_of_getElem? (i := 67) rfl)) rfl (hw _ (List.mem_of_getElem? (i := 66) rfl)) (hw _ (List.mem_of_getElem? (i := 7) rfl)) (hw _ (List.mem_of_getElem? (i := 68) rfl)) (by decide) E (rm_addAF l Z a0 hw o pp W w rb rm hW n hn h0 n0 Z0 O0 SA q f ra gr ⟨E, Fw, Fb, Fm, Fp, Fs, Ap, Op, go, gp⟩ Aq gq npq Ar gr_) pd_8 rfl (argsL := [(.ref ra)]) (rest := []) rfl rfl d8_6 (Nat.le_of_ble_eq_true rfl) (Nat.le_of_ble_eq_true rfl) (Nat.le_of_ble_eq_true rfl) (Nat.le_of_ble_eq_true rfl) (pc' := 9) rfl (fun T76 v76 L76 X76 Q76 => ?_)
  obtain ⟨rfl, N76, f76, HL76, Aq76, K76, u76, v76⟩ := Q76
  have Nn76 := Fr.app (Fr.nil n0) N76
  show OwF p e below _ T76 (mkF m 9 #[.val (.ref o), .val (.int (1 : Int32)), .val (.ref ra)] [])
  refine ow_goto C X76 d8_9 (pcT := 19) (by decide) (by decide) ?_
  refine ow_retV C X76 d8_19 (Nat.le_of_ble_eq_true rfl) (Nat.le_of_ble_eq_true rfl) ?_
  exact ⟨rfl, Nn76, ⟨_, own_ge2 gq, K76⟩, f76, Or.inr ⟨by omega, pp, q, HL76, Aq76, gq, npq⟩, u76, v76⟩
theorem Keep.own_mono {h h' : Heap} {ws ws' : List Addr} (K : Keep h h' ws) (q : ∀ x ∈ ws, x ∈ ws') : Keep h h' ws' := ⟨K.1, fun x c a b => K.2.1 x c a fun w => b (q x w), K.2.2⟩
theorem OwKp.trans {h1 h2 h3 : Heap} {o : Addr} (A : OwKp h1 h2 o) (B : OwKp h2 h3 o) : OwKp h1 h3 o := by
  obtain ⟨wa, ga, ka⟩ := A
  obtain ⟨wb, gb, kb⟩ := B
  refine ⟨wa ++ wb, fun x hx => (List.mem_append.mp hx).elim (ga x) (gb x), ?_⟩
  exact (Keep.own_mono ka fun x hx => List.mem_append_left _ hx).trans kb (fun x hx => Or.inl (List.mem_append_right _ hx))
theorem OwKp.refl (h : Heap) (o : Addr) : OwKp h h o := ⟨[], (fun _ q => nomatch q), Keep.refl h []⟩
theorem OwKp.of1 {h h' : Heap} {o : Addr} (K : Keep h h' [o]) : OwKp h h' o := ⟨[o], fun x q => by cases List.mem_singleton.mp q; exact Nat.le_refl _, K⟩
theorem OwKp.old {Z : State} {n0 : Nat} {h h' : Heap} {o : Addr} (K : OwKp h h' o) (O : Old Z n0 h) (go : n0 ≤ o) : Old Z n0 h' := by obtain ⟨ws, g, k⟩ := K; exact O.keep k fun x hx => Nat.le_trans go (g x hx)
theorem OwKp.sz {n0 : Nat} {h h' : Heap} {o : Addr} (K : OwKp h h' o) (q : n0 ≤ h.size) : n0 ≤ h'.size := by obtain ⟨ws, g, k⟩ := K; exact Nat.le_trans q k.1
theorem OwKp.arr {Z : State} {h h' : Heap} {o a : Addr} {t : FieldType} {n : Nat} {f : Nat → Value} (K : OwKp h h' o) (A : OwA Z h a t n f) (q : a < o) : OwA Z h' a t n f := by
  obtain ⟨ws, g, k⟩ := K; exact A.keep k fun hm => absurd (g _ hm) (Nat.not_le.mpr q)
theorem OwS.any {Z : State} {h : Heap} {n0 : Nat} {o : Addr} {w rb rm : Int32} {n : Nat} {f : Nat → Int32} (S : OwS Z h n0 o w rb rm n f) : ∃ pp pv, OwL Z h n0 o pp w rb rm n pv := by
  rcases S with ⟨rfl, pp, H⟩ | ⟨-, pp, q, H, -⟩
  · exact ⟨_, _, H⟩
  · exact ⟨_, _, H⟩
def own_n1 (p : Int32) : Nat := if 0 < p then 1 else 0
def own_n2 (p : Int32) : Nat := if 1 < p then 2 else own_n1 p
def own_n3 (p : Int32) : Nat := if 2 < p then 3 else own_n2 p
theorem own_lt01 {p : Int32} (h : (1 : Int32) < p) : 0 < p := by rw [Int32.lt_iff_toInt_lt] at h ⊢; have : (1 : Int32).toInt = 1 := rfl; have : (0 : Int32).toInt = 0 := rfl; omega
theorem own_lt12 {p : Int32} (h : (2 : Int32) < p) : 1 < p := by rw [Int32.lt_iff_toInt_lt] at h ⊢; have : (1 : Int32).toInt = 1 := rfl; have : (2 : Int32).toInt = 2 := rfl; omega
theorem own_n1t {p : Int32} (h : 0 < p) : own_n1 p = 1 := if_pos h
theorem own_n1f {p : Int32} (h : ¬ 0 < p) : own_n1 p = 0 := if_neg h
theorem own_n2t {p : Int32} (h : 1 < p) : own_n2 p = 2 := if_pos h
theorem own_n2f {p : Int32} (h : ¬ 1 < p) : own_n2 p = own_n1 p := if_neg h
theorem own_n3t {p : Int32} (h : 2 < p) : own_n3 p = 3 := if_pos h
theorem own_n3f {p : Int32} (h : ¬ 2 < p) : own_n3 p = own_n2 p := if_neg h
theorem own_n3le (p : Int32) : own_n3 p < 4 ∧ own_n2 p < 4 := by unfold own_n3 own_n2 own_n1; constructor <;> (repeat' split) <;> omega
theorem own_post_rng (q : Int32) : 0 ≤ (own_min (2 : Int32) (q &&& (3 : Int32))).toInt ∧ (own_min (2 : Int32) (q &&& (3 : Int32))).toInt ≤ 2 := by
  have h1 : (q &&& (3 : Int32)).toInt = q.toInt % (2 ^ 2 : Nat) := c_mask q _ 2 (by decide) (by decide)
  have h2 : (2 : Int32).toInt = 2 := rfl
  unfold own_min
  by_cases h : q &&& (3 : Int32) < (2 : Int32)
  · rw [if_pos h]; rw [Int32.lt_iff_toInt_lt, h2] at h; omega
  · rw [if_neg h]; omega
theorem own_szp {p : Int32} (h : 0 ≤ p.toInt ∧ p.toInt ≤ 2) : own_size (Int64.ofNat (own_n2 p)) = p.toInt64 := by
  unfold own_size own_n2 own_n1
  apply Int64.toInt_inj.mp
  rw [Int32.toInt_toInt64]
  simp only [Int32.lt_iff_toInt_lt, show (1 : Int32).toInt = 1 from rfl, show (0 : Int32).toInt = 0 from rfl]
  by_cases h1 : 1 < p.toInt
  · rw [if_pos h1]; show (2 : Int) = _; omega
  · rw [if_neg h1]
    by_cases h0 : 0 < p.toInt
    · rw [if_pos h0]; show (1 : Int) = _; omega
    · rw [if_neg h0]; show (0 : Int) = _; omega
theorem own_full {Z : State} {h : Heap} {n0 : Nat} {o : Addr} {w rb rm : Int32} {n : Nat} {f : Nat → Int32} (S : OwS Z h n0 o w rb rm n f) (hp : 0 < n) : ∃ pp q, OwL Z h n0 o pp w rb rm n (.ref q) ∧ OwA Z h q .int 16384 (fun j => .int (f j)) ∧ o < q ∧ pp ≠ q := by
  rcases S with ⟨w_, -⟩ | ⟨-, w_⟩
  · omega
  · exact w_
theorem own_pos {p : Int32} (h : 0 < p) : 0 < own_n2 p := by
  unfold own_n2 own_n1
  split
  · omega
  · (try rw [if_pos h]); omega
theorem pn_0 : plainFor (⟨"com/example/quillon/quillon/exploration/IntListClearPinLaw", "law", "(IIIIII)Z"⟩ : MethodName) = true := by first | exact plainFor_of_name (by first | (simp [plainName, overriddenIn]; done) | decide +kernel) | decide +kernel
theorem pd_11 : parseMethodDescriptor "(IIIIII)Z" = some ⟨[.int, .int, .int, .int, .int, .int], (some .boolean)⟩ := by decide +kernel
def own_law_j32 (q0 : Int32) (q1 : Int32) (q2 : Int32) (q3 : Int32) (q4 : Int32) (q5 : Int32) : Int32 := if (q0 &&& (8 : Int32)) = 0 then (0 : Int32) else (1 : Int32)
theorem own_law_j32_01 (q0 : Int32) (q1 : Int32) (q2 : Int32) (q3 : Int32) (q4 : Int32) (q5 : Int32) : own_law_j32 q0 q1 q2 q3 q4 q5 = 0 ∨ own_law_j32 q0 q1 q2 q3 q4 q5 = 1 := by
  unfold own_law_j32
  repeat' split
  all_goals first | exact Or.inl rfl | exact Or.inr rfl
set_option maxRecDepth 65536 in
set_option maxHeartbeats 40000000 in
theorem rm_law (l : Launch) (Z : State) (a0 : Array Value) (hw : ∀ d ∈ tables_1, d.before a0 Z = true) (q0 q1 q2 q3 q4 q5 : Int32) (h0 : Heap) (n0 : Nat) (Z0 : n0 ≤ h0.size) (SA : Sta Z Z.heap "com/example/quillon/quillon/exploration/IntList" "$assertionsDisabled" "Z" (.int 1)) (O0 : Old Z n0 h0) :
    OwCon l (⟨"com/example/quillon/quillon/exploration/IntListClearPinLaw", "law", "(IIIIII)Z"⟩ : MethodName) code maxLocals ret room_1 Z #[(.int q0), (.int q1), (.int q2), (.int q3), (.int q4), (.int q5)] h0 (fun v h L => v = some (.int 1) ∧ Fr n0 L) := by
  refine OwCon.of pn_0 (Ls := #[.val (.int q0), .val (.int q1), .val (.int q2), .val (.int q3), .val (.int q4), .val (.int q5), .unset, .unset, .unset, .unset, .unset, .unset, .unset, .unset, .unset, .unset, .unset]) (fun m => by first | (simp [entryFrame, mkF, argsToLocals, Value.category, maxLocals]; done) | rfl) ?_
  intro p e s m below meth c s₁ C X0 e0
  refine ow_iloadN C X0 at_0 rfl (pc' := 1) rfl ?_
  refine ow_iconst (1 : Int32) C X0 at_1 (by decide) (pc' := 2) rfl ?_
  refine ow_iand C X0 at_2 (pc' := 3) rfl ?_
  refine ow_if_eq C X0 at_3 (pcT := 10) (pc' := 6) (by decide) (by decide) rfl (fun b3 => ?_) (fun b3 => ?_)
  · refine ow_iconst (0 : Int32) C X0 at_10 (by decide) (pc' := 11) rfl ?_
    refine ow_istore C X0 at_11 (Ls' := #[.val (.int q0), .val (.int q1), .val (.int q2), .val (.int q3), .val (.int q4), .val (.int q5), .val (.int (0 : Int32)), .unset, .unset, .unset, .unset, .unset, .unset, .unset, .unset, .unset, .unset]) rfl (pc' := 13) rfl ?_
    refine ow_iloadN C X0 at_13 rfl (pc' := 14) rfl ?_
    refine ow_iconst (1 : Int32) C X0 at_14 (by decide) (pc' := 15) rfl ?_
    refine ow_iushr C X0 at_15 (pc' := 16) rfl ?_
    refine ow_iconst (3 : Int32) C X0 at_16 (by decide) (pc' := 17) rfl ?_
    refine ow_iand C X0 at_17 (pc' := 18) rfl ?_
    refine ow_istore C X0 at_18 (Ls' := #[.val (.int q0), .val (.int q1), .val (.int q2), .val (.int q3), .val (.int q4), .val (.int q5), .val (.int (0 : Int32)), .val (.int ((XT.ushr q0 (1 : Int32)) &&& (3 : Int32))), .unset, .unset, .unset, .unset, .unset, .unset, .unset, .unset, .unset]) rfl (pc' := 20) rfl ?_
    refine ow_iloadN C X0 at_20 rfl (pc' := 21) rfl ?_
    refine ow_bipush (8 : Int32) C X0 at_21 (by decide) (pc' := 23) rfl ?_
    refine ow_iand C X0 at_23 (pc' := 24) rfl ?_
    refine ow_join X0 e0 (f' := (mkF m 32 #[.val (.int q0), .val (.int q1), .val (.int q2), .val (.int q3), .val (.int q4), .val (.int q5), .val (.int (0 : Int32)), .val (.int ((XT.ushr q0 (1 : Int32)) &&& (3 : Int32))), .unset, .unset, .unset, .unset, .unset, .unset, .unset, .unset, .unset] [(.int (own_law_j32 q0 q1 q2 q3 q4 q5))])) ?_ (fun T77 X77 e77 => ?_)
    · intro D77 jk77
      refine ow_if_eq C X0 at_24 (pcT := 31) (pc' := 27) (by decide) (by decide) rfl (fun b24 => ?_) (fun b24 => ?_)
      · refine ow_iconst (0 : Int32) C X0 at_31 (by decide) (pc' := 32) rfl ?_
        have jq := jk77 s₁ X0 e0
        rw [show (own_law_j32 q0 q1 q2 q3 q4 q5) = (0 : Int32) from by unfold own_law_j32; (try rw [if_pos b24]); (try rfl)] at jq
        exact jq
      · refine ow_iconst (1 : Int32) C X0 at_27 (by decide) (pc' := 28) rfl ?_
        refine ow_goto C X0 at_28 (pcT := 32) (by decide) (by decide) ?_
        have jq := jk77 s₁ X0 e0
        rw [show (own_law_j32 q0 q1 q2 q3 q4 q5) = (1 : Int32) from by unfold own_law_j32; (try rw [if_neg b24]); (try rfl)] at jq
        exact jq
    refine ow_istore C X77 at_32 (Ls' := #[.val (.int q0), .val (.int q1), .val (.int q2), .val (.int q3), .val (.int q4), .val (.int q5), .val (.int (0 : Int32)), .val (.int ((XT.ushr q0 (1 : Int32)) &&& (3 : Int32))), .val (.int (own_law_j32 q0 q1 q2 q3 q4 q5)), .unset, .unset, .unset, .unset, .unset, .unset, .unset, .unset]) rfl (pc' := 34) rfl ?_
    refine ow_iconst (2 : Int32) C X77 at_34 (by decide) (pc' := 35) rfl ?_
    refine ow_iloadN C X77 at_35 rfl (pc' := 36) rfl ?_
    refine ow_iconst (4 : Int32) C X77 at_36 (by decide) (pc' := 37) rfl ?_
    refine ow_iushr C X77 at_37 (pc' := 38) rfl ?_
    refine ow_iconst (3 : Int32) C X77 at_38 (by decide) (pc' := 39) rfl ?_
    refine ow_iand C X77 at_39 (pc' := 40) rfl ?_
    refine ow_callSP C X77 e77 (hw _ (List.mem_of_getElem? (i := 0) rfl)) (hw _ (List.mem_of_getElem? (i := 1) rfl)) (hw _ (List.mem_of_getElem? (i := 2) rfl)) (hw _ (List.mem_of_getElem? (i := 3) rfl)) (by decide) (rm_min l Z a0 hw (2 : Int32) ((XT.ushr q0 (4 : Int32)) &&& (3 : Int32)) h0) ⟨rfl, rfl⟩ pd_0 rfl (argsL := [(.int (2 : Int32)), (.int ((XT.ushr q0 (4 : Int32)) &&& (3 : Int32)))]) (rest := []) rfl rfl at_40 (Nat.le_of_ble_eq_true rfl) (Nat.le_of_ble_eq_true rfl) (Nat.le_of_ble_eq_true rfl) (Nat.le_of_ble_eq_true rfl) (pc' := 43) rfl (fun T78 X78 e78 => ?_)
    refine ow_istore C X78 at_43 (Ls' := #[.val (.int q0), .val (.int q1), .val (.int q2), .val (.int q3), .val (.int q4), .val (.int q5), .val (.int (0 : Int32)), .val (.int ((XT.ushr q0 (1 : Int32)) &&& (3 : Int32))), .val (.int (own_law_j32 q0 q1 q2 q3 q4 q5)), .val (.int (own_min (2 : Int32) ((XT.ushr q0 (4 : Int32)) &&& (3 : Int32)))), .unset, .unset, .unset, .unset, .unset, .unset, .unset]) rfl (pc' := 45) rfl ?_
    refine ow_iconst (2 : Int32) C X78 at_45 (by decide) (pc' := 46) rfl ?_
    refine ow_newarr C X78 e78 (hw _ (List.mem_of_getElem? (i := 4) rfl)) at_46 (N := 2) (cap := 2) (by decide) (by decide) (Nat.le_of_ble_eq_true rfl) (Nat.le_of_ble_eq_true rfl) (Nat.le_of_ble_eq_true rfl) (Nat.le_of_ble_eq_true rfl) (pc' := 48) rfl (fun T79 h79 a79 g79 X79 e79 Ex79 A79 => ?_)
    have A79 : OwA Z h79 a79 .int 2 (fun _ => .int 0) := A79
    have Ge79 : n0 ≤ a79 := Nat.le_trans Z0 (Nat.le_of_eq g79.symm)
    have Z79 : n0 ≤ h79.size := Nat.le_trans Z0 Ex79.1
    have O79 := O0.ext Ex79
    refine ow_dup C X79 at_48 rfl (pc' := 49) rfl ?_
    refine ow_iconst (0 : Int32) C X79 at_49 (by decide) (pc' := 50) rfl ?_
    refine ow_iloadN C X79 at_50 rfl (pc' := 51) rfl ?_
    refine ow_iastore (i := 0) C X79 e79 A79 (by decide) (by decide) (Nat.le_of_ble_eq_true rfl) at_51 (pc' := 52) rfl (fun T80 h80 X80 e80 W80 => ?_)
    have A80 : OwA Z h80 a79 .int 2 (fun j => .int (if j = 0 then q1 else (0 : Int32))) := (A79.set W80).congr (fun j _ => by (try dsimp only); split <;> rfl)
    have N80 := Fr.snoc X80 (Fr.nil n0) Ge79
    have Z80 : n0 ≤ h80.size := by rw [W80.size]; exact Z79
    have O80 := O79.wr W80 Ge79
    refine ow_dup C X80 at_52 rfl (pc' := 53) rfl ?_
    refine ow_iconst (1 : Int32) C X80 at_53 (by decide) (pc' := 54) rfl ?_
    refine ow_iloadN C X80 at_54 rfl (pc' := 55) rfl ?_
    refine ow_iastore (i := 1) C X80 e80 A80 (by decide) (by decide) (Nat.le_of_ble_eq_true rfl) at_55 (pc' := 56) rfl (fun T81 h81 X81 e81 W81 => ?_)
    have A81 : OwA Z h81 a79 .int 2 (fun j => .int (if j = 1 then q2 else (if j = 0 then q1 else (0 : Int32)))) := (A80.set W81).congr (fun j _ => by (try dsimp only); split <;> rfl)
    have N81 := Fr.snoc X81 N80 Ge79
    have Z81 : n0 ≤ h81.size := by rw [W81.size]; exact Z80
    have O81 := O80.wr W81 Ge79
    refine ow_astore C X81 at_56 rfl (Ls' := #[.val (.int q0), .val (.int q1), .val (.int q2), .val (.int q3), .val (.int q4), .val (.int q5), .val (.int (0 : Int32)), .val (.int ((XT.ushr q0 (1 : Int32)) &&& (3 : Int32))), .val (.int (own_law_j32 q0 q1 q2 q3 q4 q5)), .val (.int (own_min (2 : Int32) ((XT.ushr q0 (4 : Int32)) &&& (3 : Int32)))), .val (.ref a79), .unset, .unset, .unset, .unset, .unset, .unset]) rfl (pc' := 58) rfl ?_
    refine ow_iconst (2 : Int32) C X81 at_58 (by decide) (pc' := 59) rfl ?_
    refine ow_newarr C X81 e81 (hw _ (List.mem_of_getElem? (i := 4) rfl)) at_59 (N := 2) (cap := 2) (by decide) (by decide) (Nat.le_of_ble_eq_true rfl) (Nat.le_of_ble_eq_true rfl) (Nat.le_of_ble_eq_true rfl) (Nat.le_of_ble_eq_true rfl) (pc' := 61) rfl (fun T82 h82 a82 g82 X82 e82 Ex82 A82 => ?_)
    have A82 : OwA Z h82 a82 .int 2 (fun _ => .int 0) := A82
    have lq82_a79 : a79 < a82 := Nat.lt_of_lt_of_le A81.lt (Nat.le_of_eq g82.symm)
    have A82_a79 := A81.ext Ex82
    have Ge82 : n0 ≤ a82 := Nat.le_trans Z81 (Nat.le_of_eq g82.symm)
    have Z82 : n0 ≤ h82.size := Nat.le_trans Z81 Ex82.1
    have O82 := O81.ext Ex82
    refine ow_dup C X82 at_61 rfl (pc' := 62) rfl ?_
    refine ow_iconst (0 : Int32) C X82 at_62 (by decide) (pc' := 63) rfl ?_
    refine ow_iloadN C X82 at_63 rfl (pc' := 64) rfl ?_
    refine ow_iastore (i := 0) C X82 e82 A82 (by decide) (by decide) (Nat.le_of_ble_eq_true rfl) at_64 (pc' := 65) rfl (fun T83 h83 X83 e83 W83 => ?_)
    have A83_a79 := A82_a79.other W83 (Nat.ne_of_lt lq82_a79)
    have A83 : OwA Z h83 a82 .int 2 (fun j => .int (if j = 0 then q2 else (0 : Int32))) := (A82.set W83).congr (fun j _ => by (try dsimp only); split <;> rfl)
    have N83 := Fr.snoc X83 N81 Ge82
    have Z83 : n0 ≤ h83.size := by rw [W83.size]; exact Z82
    have O83 := O82.wr W83 Ge82
    refine ow_dup C X83 at_65 rfl (pc' := 66) rfl ?_
    refine ow_iconst (1 : Int32) C X83 at_66 (by decide) (pc' := 67) rfl ?_
    refine ow_iloadN C X83 at_67 rfl (pc' := 68) rfl ?_
    refine ow_iastore (i := 1) C X83 e83 A83 (by decide) (by decide) (Nat.le_of_ble_eq_true rfl) at_68 (pc' := 69) rfl (fun T84 h84 X84 e84 W84 => ?_)
    have A84_a79 := A83_a79.other W84 (Nat.ne_of_lt lq82_a79)
    have A84 : OwA Z h84 a82 .int 2 (fun j => .int (if j = 1 then q3 else (if j = 0 then q2 else (0 : Int32)))) := (A83.set W84).congr (fun j _ => by (try dsimp only); split <;> rfl)
    have N84 := Fr.snoc X84 N83 Ge82
    have Z84 : n0 ≤ h84.size := by rw [W84.size]; exact Z83
    have O84 := O83.wr W84 Ge82
    refine ow_astore C X84 at_69 rfl (Ls' := #[.val (.int q0), .val (.int q1), .val (.int q2), .val (.int q3), .val (.int q4), .val (.int q5), .val (.int (0 : Int32)), .val (.int ((XT.ushr q0 (1 : Int32)) &&& (3 : Int32))), .val (.int (own_law_j32 q0 q1 q2 q3 q4 q5)), .val (.int (own_min (2 : Int32) ((XT.ushr q0 (4 : Int32)) &&& (3 : Int32)))), .val (.ref a79), .val (.ref a82), .unset, .unset, .unset, .unset, .unset]) rfl (pc' := 71) rfl ?_
    refine ow_iconst (2 : Int32) C X84 at_71 (by decide) (pc' := 72) rfl ?_
    refine ow_newarr C X84 e84 (hw _ (List.mem_of_getElem? (i := 4) rfl)) at_72 (N := 2) (cap := 2) (by decide) (by decide) (Nat.le_of_ble_eq_true rfl) (Nat.le_of_ble_eq_true rfl) (Nat.le_of_ble_eq_true rfl) (Nat.le_of_ble_eq_true rfl) (pc' := 74) rfl (fun T85 h85 a85 g85 X85 e85 Ex85 A85 => ?_)
    have A85 : OwA Z h85 a85 .int 2 (fun _ => .int 0) := A85
    have lq85_a79 : a79 < a85 := Nat.lt_of_lt_of_le A84_a79.lt (Nat.le_of_eq g85.symm)
    have lq85_a82 : a82 < a85 := Nat.lt_of_lt_of_le A84.lt (Nat.le_of_eq g85.symm)
    have A85_a79 := A84_a79.ext Ex85
    have A85_a82 := A84.ext Ex85
    have Ge85 : n0 ≤ a85 := Nat.le_trans Z84 (Nat.le_of_eq g85.symm)
    have Z85 : n0 ≤ h85.size := Nat.le_trans Z84 Ex85.1
    have O85 := O84.ext Ex85
    refine ow_dup C X85 at_74 rfl (pc' := 75) rfl ?_
    refine ow_iconst (0 : Int32) C X85 at_75 (by decide) (pc' := 76) rfl ?_
    refine ow_iloadN C X85 at_76 rfl (pc' := 77) rfl ?_
    refine ow_iastore (i := 0) C X85 e85 A85 (by decide) (by decide) (Nat.le_of_ble_eq_true rfl) at_77 (pc' := 78) rfl (fun T86 h86 X86 e86 W86 => ?_)
    have A86_a79 := A85_a79.other W86 (Nat.ne_of_lt lq85_a79)
    have A86_a82 := A85_a82.other W86 (Nat.ne_of_lt lq85_a82)
    have A86 : OwA Z h86 a85 .int 2 (fun j => .int (if j = 0 then q3 else (0 : Int32))) := (A85.set W86).congr (fun j _ => by (try dsimp only); split <;> rfl)
    have N86 := Fr.snoc X86 N84 Ge85
    have Z86 : n0 ≤ h86.size := by rw [W86.size]; exact Z85
    have O86 := O85.wr W86 Ge85
    refine ow_dup C X86 at_78 rfl (pc' := 79) rfl ?_
    refine ow_iconst (1 : Int32) C X86 at_79 (by decide) (pc' := 80) rfl ?_
    refine ow_iloadN C X86 at_80 rfl (pc' := 81) rfl ?_
    refine ow_iastore (i := 1) C X86 e86 A86 (by decide) (by decide) (Nat.le_of_ble_eq_true rfl) at_81 (pc' := 82) rfl (fun T87 h87 X87 e87 W87 => ?_)
    have A87_a79 := A86_a79.other W87 (Nat.ne_of_lt lq85_a79)
    have A87_a82 := A86_a82.other W87 (Nat.ne_of_lt lq85_a82)
    have A87 : OwA Z h87 a85 .int 2 (fun j => .int (if j = 1 then q1 else (if j = 0 then q3 else (0 : Int32)))) := (A86.set W87).congr (fun j _ => by (try dsimp only); split <;> rfl)
    have N87 := Fr.snoc X87 N86 Ge85
    have Z87 : n0 ≤ h87.size := by rw [W87.size]; exact Z86
    have O87 := O86.wr W87 Ge85
    refine ow_astore C X87 at_82 rfl (Ls' := #[.val (.int q0), .val (.int q1), .val (.int q2), .val (.int q3), .val (.int q4), .val (.int q5), .val (.int (0 : Int32)), .val (.int ((XT.ushr q0 (1 : Int32)) &&& (3 : Int32))), .val (.int (own_law_j32 q0 q1 q2 q3 q4 q5)), .val (.int (own_min (2 : Int32) ((XT.ushr q0 (4 : Int32)) &&& (3 : Int32)))), .val (.ref a79), .val (.ref a82), .val (.ref a85), .unset, .unset, .unset, .unset]) rfl (pc' := 84) rfl ?_
    refine ow_iconst (2 : Int32) C X87 at_84 (by decide) (pc' := 85) rfl ?_
    refine ow_newarr C X87 e87 (hw _ (List.mem_of_getElem? (i := 4) rfl)) at_85 (N := 2) (cap := 2) (by decide) (by decide) (Nat.le_of_ble_eq_true rfl) (Nat.le_of_ble_eq_true rfl) (Nat.le_of_ble_eq_true rfl) (Nat.le_of_ble_eq_true rfl) (pc' := 87) rfl (fun T88 h88 a88 g88 X88 e88 Ex88 A88 => ?_)
    have A88 : OwA Z h88 a88 .int 2 (fun _ => .int 0) := A88
    have lq88_a79 : a79 < a88 := Nat.lt_of_lt_of_le A87_a79.lt (Nat.le_of_eq g88.symm)
    have lq88_a82 : a82 < a88 := Nat.lt_of_lt_of_le A87_a82.lt (Nat.le_of_eq g88.symm)
    have lq88_a85 : a85 < a88 := Nat.lt_of_lt_of_le A87.lt (Nat.le_of_eq g88.symm)
    have A88_a79 := A87_a79.ext Ex88
    have A88_a82 := A87_a82.ext Ex88
    have A88_a85 := A87.ext Ex88
    have Ge88 : n0 ≤ a88 := Nat.le_trans Z87 (Nat.le_of_eq g88.symm)
    have Z88 : n0 ≤ h88.size := Nat.le_trans Z87 Ex88.1
    have O88 := O87.ext Ex88
    refine ow_dup C X88 at_87 rfl (pc' := 88) rfl ?_
    refine ow_iconst (0 : Int32) C X88 at_88 (by decide) (pc' := 89) rfl ?_
    refine ow_iload C X88 at_89 rfl (pc' := 91) rfl ?_
    refine ow_iastore (i := 0) C X88 e88 A88 (by decide) (by decide) (Nat.le_of_ble_eq_true rfl) at_91 (pc' := 92) rfl (fun T89 h89 X89 e89 W89 => ?_)
    have A89_a79 := A88_a79.other W89 (Nat.ne_of_lt lq88_a79)
    have A89_a82 := A88_a82.other W89 (Nat.ne_of_lt lq88_a82)
    have A89_a85 := A88_a85.other W89 (Nat.ne_of_lt lq88_a85)
    have A89 : OwA Z h89 a88 .int 2 (fun j => .int (if j = 0 then q4 else (0 : Int32))) := (A88.set W89).congr (fun j _ => by (try dsimp only); split <;> rfl)
    have N89 := Fr.snoc X89 N87 Ge88
    have Z89 : n0 ≤ h89.size := by rw [W89.size]; exact Z88
    have O89 := O88.wr W89 Ge88
    refine ow_dup C X89 at_92 rfl (pc' := 93) rfl ?_
    refine ow_iconst (1 : Int32) C X89 at_93 (by decide) (pc' := 94) rfl ?_
    refine ow_iload C X89 at_94 rfl (pc' := 96) rfl ?_
    refine ow_iastore (i := 1) C X89 e89 A89 (by decide) (by decide) (Nat.le_of_ble_eq_true rfl) at_96 (pc' := 97) rfl (fun T90 h90 X90 e90 W90 => ?_)
    have A90_a79 := A89_a79.other W90 (Nat.ne_of_lt lq88_a79)
    have A90_a82 := A89_a82.other W90 (Nat.ne_of_lt lq88_a82)
    have A90_a85 := A89_a85.other W90 (Nat.ne_of_lt lq88_a85)
    have A90 : OwA Z h90 a88 .int 2 (fun j => .int (if j = 1 then q5 else (if j = 0 then q4 else (0 : Int32)))) := (A89.set W90).congr (fun j _ => by (try dsimp only); split <;> rfl)
    have N90 := Fr.snoc X90 N89 Ge88
    have Z90 : n0 ≤ h90.size := by rw [W90.size]; exact Z89
    have O90 := O89.wr W90 Ge88
    refine ow_astore C X90 at_97 rfl (Ls' := #[.val (.int q0), .val (.int q1), .val (.int q2), .val (.int q3), .val (.int q4), .val (.int q5), .val (.int (0 : Int32)), .val (.int ((XT.ushr q0 (1 : Int32)) &&& (3 : Int32))), .val (.int (own_law_j32 q0 q1 q2 q3 q4 q5)), .val (.int (own_min (2 : Int32) ((XT.ushr q0 (4 : Int32)) &&& (3 : Int32)))), .val (.ref a79), .val (.ref a82), .val (.ref a85), .val (.ref a88), .unset, .unset, .unset]) rfl (pc' := 99) rfl ?_
    refine ow_iconst (2 : Int32) C X90 at_99 (by decide) (pc' := 100) rfl ?_
    refine ow_newarr C X90 e90 (hw _ (List.mem_of_getElem? (i := 4) rfl)) at_100 (N := 2) (cap := 2) (by decide) (by decide) (Nat.le_of_ble_eq_true rfl) (Nat.le_of_ble_eq_true rfl) (Nat.le_of_ble_eq_true rfl) (Nat.le_of_ble_eq_true rfl) (pc' := 102) rfl (fun T91 h91 a91 g91 X91 e91 Ex91 A91 => ?_)
    have A91 : OwA Z h91 a91 .int 2 (fun _ => .int 0) := A91
    have lq91_a79 : a79 < a91 := Nat.lt_of_lt_of_le A90_a79.lt (Nat.le_of_eq g91.symm)
    have lq91_a82 : a82 < a91 := Nat.lt_of_lt_of_le A90_a82.lt (Nat.le_of_eq g91.symm)
    have lq91_a85 : a85 < a91 := Nat.lt_of_lt_of_le A90_a85.lt (Nat.le_of_eq g91.symm)
    have lq91_a88 : a88 < a91 := Nat.lt_of_lt_of_le A90.lt (Nat.le_of_eq g91.symm)
    have A91_a79 := A90_a79.ext Ex91
    have A91_a82 := A90_a82.ext Ex91
    have A91_a85 := A90_a85.ext Ex91
    have A91_a88 := A90.ext Ex91
    have Ge91 : n0 ≤ a91 := Nat.le_trans Z90 (Nat.le_of_eq g91.symm)
    have Z91 : n0 ≤ h91.size := Nat.le_trans Z90 Ex91.1
    have O91 := O90.ext Ex91
    refine ow_dup C X91 at_102 rfl (pc' := 103) rfl ?_
    refine ow_iconst (0 : Int32) C X91 at_103 (by decide) (pc' := 104) rfl ?_
    refine ow_iload C X91 at_104 rfl (pc' := 106) rfl ?_
    refine ow_iastore (i := 0) C X91 e91 A91 (by decide) (by decide) (Nat.le_of_ble_eq_true rfl) at_106 (pc' := 107) rfl (fun T92 h92 X92 e92 W92 => ?_)
    have A92_a79 := A91_a79.other W92 (Nat.ne_of_lt lq91_a79)
    have A92_a82 := A91_a82.other W92 (Nat.ne_of_lt lq91_a82)
    have A92_a85 := A91_a85.other W92 (Nat.ne_of_lt lq91_a85)
    have A92_a88 := A91_a88.other W92 (Nat.ne_of_lt lq91_a88)
    have A92 : OwA Z h92 a91 .int 2 (fun j => .int (if j = 0 then q5 else (0 : Int32))) := (A91.set W92).congr (fun j _ => by (try dsimp only); split <;> rfl)
    have N92 := Fr.snoc X92 N90 Ge91
    have Z92 : n0 ≤ h92.size := by rw [W92.size]; exact Z91
    have O92 := O91.wr W92 Ge91
    refine ow_dup C X92 at_107 rfl (pc' := 108) rfl ?_
    refine ow_iconst (1 : Int32) C X92 at_108 (by decide) (pc' := 109) rfl ?_
    refine ow_iload C X92 at_109 rfl (pc' := 111) rfl ?_
    refine ow_iastore (i := 1) C X92 e92 A92 (by decide) (by decide) (Nat.le_of_ble_eq_true rfl) at_111 (pc' := 112) rfl (fun T93 h93 X93 e93 W93 => ?_)
    have A93_a79 := A92_a79.other W93 (Nat.ne_of_lt lq91_a79)
    have A93_a82 := A92_a82.other W93 (Nat.ne_of_lt lq91_a82)
    have A93_a85 := A92_a85.other W93 (Nat.ne_of_lt lq91_a85)
    have A93_a88 := A92_a88.other W93 (Nat.ne_of_lt lq91_a88)
    have A93 : OwA Z h93 a91 .int 2 (fun j => .int (if j = 1 then q4 else (if j = 0 then q5 else (0 : Int32)))) := (A92.set W93).congr (fun j _ => by (try dsimp only); split <;> rfl)
    have N93 := Fr.snoc X93 N92 Ge91
    have Z93 : n0 ≤ h93.size := by rw [W93.size]; exact Z92
    have O93 := O92.wr W93 Ge91
    refine ow_astore C X93 at_112 rfl (Ls' := #[.val (.int q0), .val (.int q1), .val (.int q2), .val (.int q3), .val (.int q4), .val (.int q5), .val (.int (0 : Int32)), .val (.int ((XT.ushr q0 (1 : Int32)) &&& (3 : Int32))), .val (.int (own_law_j32 q0 q1 q2 q3 q4 q5)), .val (.int (own_min (2 : Int32) ((XT.ushr q0 (4 : Int32)) &&& (3 : Int32)))), .val (.ref a79), .val (.ref a82), .val (.ref a85), .val (.ref a88), .val (.ref a91), .unset, .unset]) rfl (pc' := 114) rfl ?_
    refine ow_iload C X93 at_114 rfl (pc' := 116) rfl ?_
    refine ow_if_ne C X93 at_116 (pcT := 166) (pc' := 119) (by decide) (by decide) rfl (fun bq => absurd (by decide) bq) (fun _ => ?_)
    refine ow_iconst (1 : Int32) C X93 at_119 (by decide) (pc' := 120) rfl ?_
    refine ow_newarr C X93 e93 (hw _ (List.mem_of_getElem? (i := 4) rfl)) at_120 (N := 1) (cap := 1) (by decide) (by decide) (Nat.le_of_ble_eq_true rfl) (Nat.le_of_ble_eq_true rfl) (Nat.le_of_ble_eq_true rfl) (Nat.le_of_ble_eq_true rfl) (pc' := 122) rfl (fun T94 h94 a94 g94 X94 e94 Ex94 A94 => ?_)
    have A94 : OwA Z h94 a94 .int 1 (fun _ => .int 0) := A94
    have lq94_a79 : a79 < a94 := Nat.lt_of_lt_of_le A93_a79.lt (Nat.le_of_eq g94.symm)
    have lq94_a82 : a82 < a94 := Nat.lt_of_lt_of_le A93_a82.lt (Nat.le_of_eq g94.symm)
    have lq94_a85 : a85 < a94 := Nat.lt_of_lt_of_le A93_a85.lt (Nat.le_of_eq g94.symm)
    have lq94_a88 : a88 < a94 := Nat.lt_of_lt_of_le A93_a88.lt (Nat.le_of_eq g94.symm)
    have lq94_a91 : a91 < a94 := Nat.lt_of_lt_of_le A93.lt (Nat.le_of_eq g94.symm)
    have A94_a79 := A93_a79.ext Ex94
    have A94_a82 := A93_a82.ext Ex94
    have A94_a85 := A93_a85.ext Ex94
    have A94_a88 := A93_a88.ext Ex94
    have A94_a91 := A93.ext Ex94
    have Ge94 : n0 ≤ a94 := Nat.le_trans Z93 (Nat.le_of_eq g94.symm)
    have Z94 : n0 ≤ h94.size := Nat.le_trans Z93 Ex94.1
    have O94 := O93.ext Ex94
    refine ow_dup C X94 at_122 rfl (pc' := 123) rfl ?_
    refine ow_iconst (0 : Int32) C X94 at_123 (by decide) (pc' := 124) rfl ?_
    refine ow_iloadN C X94 at_124 rfl (pc' := 125) rfl ?_
    refine ow_iastore (i := 0) C X94 e94 A94 (by decide) (by decide) (Nat.le_of_ble_eq_true rfl) at_125 (pc' := 126) rfl (fun T95 h95 X95 e95 W95 => ?_)
    have A95_a79 := A94_a79.other W95 (Nat.ne_of_lt lq94_a79)
    have A95_a82 := A94_a82.other W95 (Nat.ne_of_lt lq94_a82)
    have A95_a85 := A94_a85.other W95 (Nat.ne_of_lt lq94_a85)
    have A95_a88 := A94_a88.other W95 (Nat.ne_of_lt lq94_a88)
    have A95_a91 := A94_a91.other W95 (Nat.ne_of_lt lq94_a91)
    have A95 : OwA Z h95 a94 .int 1 (fun j => .int (if j = 0 then q1 else (0 : Int32))) := (A94.set W95).congr (fun j _ => by (try dsimp only); split <;> rfl)
    have N95 := Fr.snoc X95 N93 Ge94
    have Z95 : n0 ≤ h95.size := by rw [W95.size]; exact Z94
    have O95 := O94.wr W95 Ge94
    refine ow_astore C X95 at_126 rfl (Ls' := #[.val (.int q0), .val (.int q1), .val (.int q2), .val (.int q3), .val (.int q4), .val (.int q5), .val (.int (0 : Int32)), .val (.int ((XT.ushr q0 (1 : Int32)) &&& (3 : Int32))), .val (.int (own_law_j32 q0 q1 q2 q3 q4 q5)), .val (.int (own_min (2 : Int32) ((XT.ushr q0 (4 : Int32)) &&& (3 : Int32)))), .val (.ref a94), .val (.ref a82), .val (.ref a85), .val (.ref a88), .val (.ref a91), .unset, .unset]) rfl (pc' := 128) rfl ?_
    refine ow_iconst (1 : Int32) C X95 at_128 (by decide) (pc' := 129) rfl ?_
    refine ow_newarr C X95 e95 (hw _ (List.mem_of_getElem? (i := 4) rfl)) at_129 (N := 1) (cap := 1) (by decide) (by decide) (Nat.le_of_ble_eq_true rfl) (Nat.le_of_ble_eq_true rfl) (Nat.le_of_ble_eq_true rfl) (Nat.le_of_ble_eq_true rfl) (pc' := 131) rfl (fun T96 h96 a96 g96 X96 e96 Ex96 A96 => ?_)
    have A96 : OwA Z h96 a96 .int 1 (fun _ => .int 0) := A96
    have lq96_a79 : a79 < a96 := Nat.lt_of_lt_of_le A95_a79.lt (Nat.le_of_eq g96.symm)
    have lq96_a82 : a82 < a96 := Nat.lt_of_lt_of_le A95_a82.lt (Nat.le_of_eq g96.symm)
    have lq96_a85 : a85 < a96 := Nat.lt_of_lt_of_le A95_a85.lt (Nat.le_of_eq g96.symm)
    have lq96_a88 : a88 < a96 := Nat.lt_of_lt_of_le A95_a88.lt (Nat.le_of_eq g96.symm)
    have lq96_a91 : a91 < a96 := Nat.lt_of_lt_of_le A95_a91.lt (Nat.le_of_eq g96.symm)
    have lq96_a94 : a94 < a96 := Nat.lt_of_lt_of_le A95.lt (Nat.le_of_eq g96.symm)
    have A96_a79 := A95_a79.ext Ex96
    have A96_a82 := A95_a82.ext Ex96
    have A96_a85 := A95_a85.ext Ex96
    have A96_a88 := A95_a88.ext Ex96
    have A96_a91 := A95_a91.ext Ex96
    have A96_a94 := A95.ext Ex96
    have Ge96 : n0 ≤ a96 := Nat.le_trans Z95 (Nat.le_of_eq g96.symm)
    have Z96 : n0 ≤ h96.size := Nat.le_trans Z95 Ex96.1
    have O96 := O95.ext Ex96
    refine ow_dup C X96 at_131 rfl (pc' := 132) rfl ?_
    refine ow_iconst (0 : Int32) C X96 at_132 (by decide) (pc' := 133) rfl ?_
    refine ow_iloadN C X96 at_133 rfl (pc' := 134) rfl ?_
    refine ow_iastore (i := 0) C X96 e96 A96 (by decide) (by decide) (Nat.le_of_ble_eq_true rfl) at_134 (pc' := 135) rfl (fun T97 h97 X97 e97 W97 => ?_)
    have A97_a79 := A96_a79.other W97 (Nat.ne_of_lt lq96_a79)
    have A97_a82 := A96_a82.other W97 (Nat.ne_of_lt lq96_a82)
    have A97_a85 := A96_a85.other W97 (Nat.ne_of_lt lq96_a85)
    have A97_a88 := A96_a88.other W97 (Nat.ne_of_lt lq96_a88)
    have A97_a91 := A96_a91.other W97 (Nat.ne_of_lt lq96_a91)
    have A97_a94 := A96_a94.other W97 (Nat.ne_of_lt lq96_a94)
    have A97 : OwA Z h97 a96 .int 1 (fun j => .int (if j = 0 then q2 else (0 : Int32))) := (A96.set W97).congr (fun j _ => by (try dsimp only); split <;> rfl)
    have N97 := Fr.snoc X97 N95 Ge96
    have Z97 : n0 ≤ h97.size := by rw [W97.size]; exact Z96
    have O97 := O96.wr W97 Ge96
    refine ow_astore C X97 at_135 rfl (Ls' := #[.val (.int q0), .val (.int q1), .val (.int q2), .val (.int q3), .val (.int q4), .val (.int q5), .val (.int (0 : Int32)), .val (.int ((XT.ushr q0 (1 : Int32)) &&& (3 : Int32))), .val (.int (own_law_j32 q0 q1 q2 q3 q4 q5)), .val (.int (own_min (2 : Int32) ((XT.ushr q0 (4 : Int32)) &&& (3 : Int32)))), .val (.ref a94), .val (.ref a96), .val (.ref a85), .val (.ref a88), .val (.ref a91), .unset, .unset]) rfl (pc' := 137) rfl ?_
    refine ow_iconst (1 : Int32) C X97 at_137 (by decide) (pc' := 138) rfl ?_
    refine ow_newarr C X97 e97 (hw _ (List.mem_of_getElem? (i := 4) rfl)) at_138 (N := 1) (cap := 1) (by decide) (by decide) (Nat.le_of_ble_eq_true rfl) (Nat.le_of_ble_eq_true rfl) (Nat.le_of_ble_eq_true rfl) (Nat.le_of_ble_eq_true rfl) (pc' := 140) rfl (fun T98 h98 a98 g98 X98 e98 Ex98 A98 => ?_)
    have A98 : OwA Z h98 a98 .int 1 (fun _ => .int 0) := A98
    have lq98_a79 : a79 < a98 := Nat.lt_of_lt_of_le A97_a79.lt (Nat.le_of_eq g98.symm)
    have lq98_a82 : a82 < a98 := Nat.lt_of_lt_of_le A97_a82.lt (Nat.le_of_eq g98.symm)
    have lq98_a85 : a85 < a98 := Nat.lt_of_lt_of_le A97_a85.lt (Nat.le_of_eq g98.symm)
    have lq98_a88 : a88 < a98 := Nat.lt_of_lt_of_le A97_a88.lt (Nat.le_of_eq g98.symm)
    have lq98_a91 : a91 < a98 := Nat.lt_of_lt_of_le A97_a91.lt (Nat.le_of_eq g98.symm)
    have lq98_a94 : a94 < a98 := Nat.lt_of_lt_of_le A97_a94.lt (Nat.le_of_eq g98.symm)
    have lq98_a96 : a96 < a98 := Nat.lt_of_lt_of_le A97.lt (Nat.le_of_eq g98.symm)
    have A98_a79 := A97_a79.ext Ex98
    have A98_a82 := A97_a82.ext Ex98
    have A98_a85 := A97_a85.ext Ex98
    have A98_a88 := A97_a88.ext Ex98
    have A98_a91 := A97_a91.ext Ex98
    have A98_a94 := A97_a94.ext Ex98
    have A98_a96 := A97.ext Ex98
    have Ge98 : n0 ≤ a98 := Nat.le_trans Z97 (Nat.le_of_eq g98.symm)
    have Z98 : n0 ≤ h98.size := Nat.le_trans Z97 Ex98.1
    have O98 := O97.ext Ex98
    refine ow_dup C X98 at_140 rfl (pc' := 141) rfl ?_
    refine ow_iconst (0 : Int32) C X98 at_141 (by decide) (pc' := 142) rfl ?_
    refine ow_iloadN C X98 at_142 rfl (pc' := 143) rfl ?_
    refine ow_iastore (i := 0) C X98 e98 A98 (by decide) (by decide) (Nat.le_of_ble_eq_true rfl) at_143 (pc' := 144) rfl (fun T99 h99 X99 e99 W99 => ?_)
    have A99_a79 := A98_a79.other W99 (Nat.ne_of_lt lq98_a79)
    have A99_a82 := A98_a82.other W99 (Nat.ne_of_lt lq98_a82)
    have A99_a85 := A98_a85.other W99 (Nat.ne_of_lt lq98_a85)
    have A99_a88 := A98_a88.other W99 (Nat.ne_of_lt lq98_a88)
    have A99_a91 := A98_a91.other W99 (Nat.ne_of_lt lq98_a91)
    have A99_a94 := A98_a94.other W99 (Nat.ne_of_lt lq98_a94)
    have A99_a96 := A98_a96.other W99 (Nat.ne_of_lt lq98_a96)
    have A99 : OwA Z h99 a98 .int 1 (fun j => .int (if j = 0 then q3 else (0 : Int32))) := (A98.set W99).congr (fun j _ => by (try dsimp only); split <;> rfl)
    have N99 := Fr.snoc X99 N97 Ge98
    have Z99 : n0 ≤ h99.size := by rw [W99.size]; exact Z98
    have O99 := O98.wr W99 Ge98
    refine ow_astore C X99 at_144 rfl (Ls' := #[.val (.int q0), .val (.int q1), .val (.int q2), .val (.int q3), .val (.int q4), .val (.int q5), .val (.int (0 : Int32)), .val (.int ((XT.ushr q0 (1 : Int32)) &&& (3 : Int32))), .val (.int (own_law_j32 q0 q1 q2 q3 q4 q5)), .val (.int (own_min (2 : Int32) ((XT.ushr q0 (4 : Int32)) &&& (3 : Int32)))), .val (.ref a94), .val (.ref a96), .val (.ref a98), .val (.ref a88), .val (.ref a91), .unset, .unset]) rfl (pc' := 146) rfl ?_
    refine ow_iconst (1 : Int32) C X99 at_146 (by decide) (pc' := 147) rfl ?_
    refine ow_newarr C X99 e99 (hw _ (List.mem_of_getElem? (i := 4) rfl)) at_147 (N := 1) (cap := 1) (by decide) (by decide) (Nat.le_of_ble_eq_true rfl) (Nat.le_of_ble_eq_true rfl) (Nat.le_of_ble_eq_true rfl) (Nat.le_of_ble_eq_true rfl) (pc' := 149) rfl (fun T100 h100 a100 g100 X100 e100 Ex100 A100 => ?_)
    have A100 : OwA Z h100 a100 .int 1 (fun _ => .int 0) := A100
    have lq100_a79 : a79 < a100 := Nat.lt_of_lt_of_le A99_a79.lt (Nat.le_of_eq g100.symm)
    have lq100_a82 : a82 < a100 := Nat.lt_of_lt_of_le A99_a82.lt (Nat.le_of_eq g100.symm)
    have lq100_a85 : a85 < a100 := Nat.lt_of_lt_of_le A99_a85.lt (Nat.le_of_eq g100.symm)
    have lq100_a88 : a88 < a100 := Nat.lt_of_lt_of_le A99_a88.lt (Nat.le_of_eq g100.symm)
    have lq100_a91 : a91 < a100 := Nat.lt_of_lt_of_le A99_a91.lt (Nat.le_of_eq g100.symm)
    have lq100_a94 : a94 < a100 := Nat.lt_of_lt_of_le A99_a94.lt (Nat.le_of_eq g100.symm)
    have lq100_a96 : a96 < a100 := Nat.lt_of_lt_of_le A99_a96.lt (Nat.le_of_eq g100.symm)
    have lq100_a98 : a98 < a100 := Nat.lt_of_lt_of_le A99.lt (Nat.le_of_eq g100.symm)
    have A100_a79 := A99_a79.ext Ex100
    have A100_a82 := A99_a82.ext Ex100
    have A100_a85 := A99_a85.ext Ex100
    have A100_a88 := A99_a88.ext Ex100
    have A100_a91 := A99_a91.ext Ex100
    have A100_a94 := A99_a94.ext Ex100
    have A100_a96 := A99_a96.ext Ex100
    have A100_a98 := A99.ext Ex100
    have Ge100 : n0 ≤ a100 := Nat.le_trans Z99 (Nat.le_of_eq g100.symm)
    have Z100 : n0 ≤ h100.size := Nat.le_trans Z99 Ex100.1
    have O100 := O99.ext Ex100
    refine ow_dup C X100 at_149 rfl (pc' := 150) rfl ?_
    refine ow_iconst (0 : Int32) C X100 at_150 (by decide) (pc' := 151) rfl ?_
    refine ow_iload C X100 at_151 rfl (pc' := 153) rfl ?_
    refine ow_iastore (i := 0) C X100 e100 A100 (by decide) (by decide) (Nat.le_of_ble_eq_true rfl) at_153 (pc' := 154) rfl (fun T101 h101 X101 e101 W101 => ?_)
    have A101_a79 := A100_a79.other W101 (Nat.ne_of_lt lq100_a79)
    have A101_a82 := A100_a82.other W101 (Nat.ne_of_lt lq100_a82)
    have A101_a85 := A100_a85.other W101 (Nat.ne_of_lt lq100_a85)
    have A101_a88 := A100_a88.other W101 (Nat.ne_of_lt lq100_a88)
    have A101_a91 := A100_a91.other W101 (Nat.ne_of_lt lq100_a91)
    have A101_a94 := A100_a94.other W101 (Nat.ne_of_lt lq100_a94)
    have A101_a96 := A100_a96.other W101 (Nat.ne_of_lt lq100_a96)
    have A101_a98 := A100_a98.other W101 (Nat.ne_of_lt lq100_a98)
    have A101 : OwA Z h101 a100 .int 1 (fun j => .int (if j = 0 then q4 else (0 : Int32))) := (A100.set W101).congr (fun j _ => by (try dsimp only); split <;> rfl)
    have N101 := Fr.snoc X101 N99 Ge100
    have Z101 : n0 ≤ h101.size := by rw [W101.size]; exact Z100
    have O101 := O100.wr W101 Ge100
    refine ow_astore C X101 at_154 rfl (Ls' := #[.val (.int q0), .val (.int q1), .val (.int q2), .val (.int q3), .val (.int q4), .val (.int q5), .val (.int (0 : Int32)), .val (.int ((XT.ushr q0 (1 : Int32)) &&& (3 : Int32))), .val (.int (own_law_j32 q0 q1 q2 q3 q4 q5)), .val (.int (own_min (2 : Int32) ((XT.ushr q0 (4 : Int32)) &&& (3 : Int32)))), .val (.ref a94), .val (.ref a96), .val (.ref a98), .val (.ref a100), .val (.ref a91), .unset, .unset]) rfl (pc' := 156) rfl ?_
    refine ow_iconst (1 : Int32) C X101 at_156 (by decide) (pc' := 157) rfl ?_
    refine ow_newarr C X101 e101 (hw _ (List.mem_of_getElem? (i := 4) rfl)) at_157 (N := 1) (cap := 1) (by decide) (by decide) (Nat.le_of_ble_eq_true rfl) (Nat.le_of_ble_eq_true rfl) (Nat.le_of_ble_eq_true rfl) (Nat.le_of_ble_eq_true rfl) (pc' := 159) rfl (fun T102 h102 a102 g102 X102 e102 Ex102 A102 => ?_)
    have A102 : OwA Z h102 a102 .int 1 (fun _ => .int 0) := A102
    have lq102_a79 : a79 < a102 := Nat.lt_of_lt_of_le A101_a79.lt (Nat.le_of_eq g102.symm)
    have lq102_a82 : a82 < a102 := Nat.lt_of_lt_of_le A101_a82.lt (Nat.le_of_eq g102.symm)
    have lq102_a85 : a85 < a102 := Nat.lt_of_lt_of_le A101_a85.lt (Nat.le_of_eq g102.symm)
    have lq102_a88 : a88 < a102 := Nat.lt_of_lt_of_le A101_a88.lt (Nat.le_of_eq g102.symm)
    have lq102_a91 : a91 < a102 := Nat.lt_of_lt_of_le A101_a91.lt (Nat.le_of_eq g102.symm)
    have lq102_a94 : a94 < a102 := Nat.lt_of_lt_of_le A101_a94.lt (Nat.le_of_eq g102.symm)
    have lq102_a96 : a96 < a102 := Nat.lt_of_lt_of_le A101_a96.lt (Nat.le_of_eq g102.symm)
    have lq102_a98 : a98 < a102 := Nat.lt_of_lt_of_le A101_a98.lt (Nat.le_of_eq g102.symm)
    have lq102_a100 : a100 < a102 := Nat.lt_of_lt_of_le A101.lt (Nat.le_of_eq g102.symm)
    have A102_a79 := A101_a79.ext Ex102
    have A102_a82 := A101_a82.ext Ex102
    have A102_a85 := A101_a85.ext Ex102
    have A102_a88 := A101_a88.ext Ex102
    have A102_a91 := A101_a91.ext Ex102
    have A102_a94 := A101_a94.ext Ex102
    have A102_a96 := A101_a96.ext Ex102
    have A102_a98 := A101_a98.ext Ex102
    have A102_a100 := A101.ext Ex102
    have Ge102 : n0 ≤ a102 := Nat.le_trans Z101 (Nat.le_of_eq g102.symm)
    have Z102 : n0 ≤ h102.size := Nat.le_trans Z101 Ex102.1
    have O102 := O101.ext Ex102
    refine ow_dup C X102 at_159 rfl (pc' := 160) rfl ?_
    refine ow_iconst (0 : Int32) C X102 at_160 (by decide) (pc' := 161) rfl ?_
    refine ow_iload C X102 at_161 rfl (pc' := 163) rfl ?_
    refine ow_iastore (i := 0) C X102 e102 A102 (by decide) (by decide) (Nat.le_of_ble_eq_true rfl) at_163 (pc' := 164) rfl (fun T103 h103 X103 e103 W103 => ?_)
    have A103_a79 := A102_a79.other W103 (Nat.ne_of_lt lq102_a79)
    have A103_a82 := A102_a82.other W103 (Nat.ne_of_lt lq102_a82)
    have A103_a85 := A102_a85.other W103 (Nat.ne_of_lt lq102_a85)
    have A103_a88 := A102_a88.other W103 (Nat.ne_of_lt lq102_a88)
    have A103_a91 := A102_a91.other W103 (Nat.ne_of_lt lq102_a91)
    have A103_a94 := A102_a94.other W103 (Nat.ne_of_lt lq102_a94)
    have A103_a96 := A102_a96.other W103 (Nat.ne_of_lt lq102_a96)
    have A103_a98 := A102_a98.other W103 (Nat.ne_of_lt lq102_a98)
    have A103_a100 := A102_a100.other W103 (Nat.ne_of_lt lq102_a100)
    have A103 : OwA Z h103 a102 .int 1 (fun j => .int (if j = 0 then q5 else (0 : Int32))) := (A102.set W103).congr (fun j _ => by (try dsimp only); split <;> rfl)
    have N103 := Fr.snoc X103 N101 Ge102
    have Z103 : n0 ≤ h103.size := by rw [W103.size]; exact Z102
    have O103 := O102.wr W103 Ge102
    refine ow_astore C X103 at_164 rfl (Ls' := #[.val (.int q0), .val (.int q1), .val (.int q2), .val (.int q3), .val (.int q4), .val (.int q5), .val (.int (0 : Int32)), .val (.int ((XT.ushr q0 (1 : Int32)) &&& (3 : Int32))), .val (.int (own_law_j32 q0 q1 q2 q3 q4 q5)), .val (.int (own_min (2 : Int32) ((XT.ushr q0 (4 : Int32)) &&& (3 : Int32)))), .val (.ref a94), .val (.ref a96), .val (.ref a98), .val (.ref a100), .val (.ref a102), .unset, .unset]) rfl (pc' := 166) rfl ?_
    refine ow_new C X103 e103 (hw _ (List.mem_of_getElem? (i := 5) rfl)) (hw _ (List.mem_of_getElem? (i := 6) rfl)) (hw _ (List.mem_of_getElem? (i := 7) rfl)) at_166 (Nat.le_of_ble_eq_true rfl) (Nat.le_of_ble_eq_true rfl) (pc' := 169) rfl (fun T104 h104 a104 g104 X104 e104 Ex104 A104 D104 => ?_)
    have lq104_a79 : a79 < a104 := Nat.lt_of_lt_of_le A103_a79.lt (Nat.le_of_eq g104.symm)
    have lq104_a82 : a82 < a104 := Nat.lt_of_lt_of_le A103_a82.lt (Nat.le_of_eq g104.symm)
    have lq104_a85 : a85 < a104 := Nat.lt_of_lt_of_le A103_a85.lt (Nat.le_of_eq g104.symm)
    have lq104_a88 : a88 < a104 := Nat.lt_of_lt_of_le A103_a88.lt (Nat.le_of_eq g104.symm)
    have lq104_a91 : a91 < a104 := Nat.lt_of_lt_of_le A103_a91.lt (Nat.le_of_eq g104.symm)
    have lq104_a94 : a94 < a104 := Nat.lt_of_lt_of_le A103_a94.lt (Nat.le_of_eq g104.symm)
    have lq104_a96 : a96 < a104 := Nat.lt_of_lt_of_le A103_a96.lt (Nat.le_of_eq g104.symm)
    have lq104_a98 : a98 < a104 := Nat.lt_of_lt_of_le A103_a98.lt (Nat.le_of_eq g104.symm)
    have lq104_a100 : a100 < a104 := Nat.lt_of_lt_of_le A103_a100.lt (Nat.le_of_eq g104.symm)
    have lq104_a102 : a102 < a104 := Nat.lt_of_lt_of_le A103.lt (Nat.le_of_eq g104.symm)
    have A104_a79 := A103_a79.ext Ex104
    have A104_a82 := A103_a82.ext Ex104
    have A104_a85 := A103_a85.ext Ex104
    have A104_a88 := A103_a88.ext Ex104
    have A104_a91 := A103_a91.ext Ex104
    have A104_a94 := A103_a94.ext Ex104
    have A104_a96 := A103_a96.ext Ex104
    have A104_a98 := A103_a98.ext Ex104
    have A104_a100 := A103_a100.ext Ex104
    have A104_a102 := A103.ext Ex104
    have Ge104 : n0 ≤ a104 := Nat.le_trans Z103 (Nat.le_of_eq g104.symm)
    have Z104 : n0 ≤ h104.size := Nat.le_trans Z103 Ex104.1
    have O104 := O103.ext Ex104
    have Fn104_0 : Fld Z h104 a104 "com/example/quillon/quillon/exploration/IntList" "pages" "[[I" .null := D104 (Or.inl (hw _ (List.mem_of_getElem? (i := 17) rfl))) (ty := (.array (.array .int))) (by decide)
    have Fn104_1 : Fld Z h104 a104 "com/example/quillon/quillon/exploration/IntList" "width" "I" (.int (0 : Int32)) := D104 (Or.inr (hw _ (List.mem_of_getElem? (i := 19) rfl))) (ty := .int) (by decide)
    have Fn104_2 : Fld Z h104 a104 "com/example/quillon/quillon/exploration/IntList" "recordBits" "I" (.int (0 : Int32)) := D104 (Or.inr (hw _ (List.mem_of_getElem? (i := 28) rfl))) (ty := .int) (by decide)
    have Fn104_3 : Fld Z h104 a104 "com/example/quillon/quillon/exploration/IntList" "recordMask" "I" (.int (0 : Int32)) := D104 (Or.inr (hw _ (List.mem_of_getElem? (i := 30) rfl))) (ty := .int) (by decide)
    have Fn104_4 : Fld Z h104 a104 "com/example/quillon/quillon/exploration/IntList" "size" "J" (.long (0 : Int64)) := D104 (Or.inl (hw _ (List.mem_of_getElem? (i := 37) rfl))) (ty := .long) (by decide)
    refine ow_dup C X104 at_169 rfl (pc' := 170) rfl ?_
    refine ow_iload C X104 at_170 rfl (pc' := 172) rfl ?_
    refine ow_if_eq C X104 at_172 (pcT := 179) (pc' := 175) (by decide) (by decide) rfl (fun _ => ?_) (fun bq => absurd (by decide) bq)
    refine ow_iconst (1 : Int32) C X104 at_179 (by decide) (pc' := 180) rfl ?_
    refine ow_callN C X104 e104 rfl (hw _ (List.mem_of_getElem? (i := 8) rfl)) (hw _ (List.mem_of_getElem? (i := 9) rfl)) (hw _ (List.mem_of_getElem? (i := 7) rfl)) (hw _ (List.mem_of_getElem? (i := 10) rfl)) (by decide) (rm_init l Z a0 hw a104 1 1 14 16383 (Or.inl ⟨rfl, rfl, rfl, rfl⟩) _ _ _ _ h104 n0 Z104 A104 Ge104 Fn104_1 Fn104_2 Fn104_3 Fn104_0 Fn104_4) pd_4 rfl (argsL := [(.int (1 : Int32))]) (rest := [(.ref a104)]) rfl rfl at_180 (Nat.le_of_ble_eq_true rfl) (Nat.le_of_ble_eq_true rfl) (Nat.le_of_ble_eq_true rfl) (Nat.le_of_ble_eq_true rfl) (pc' := 183) rfl (fun T105 v105 L105 X105 Q105 => ?_)
    obtain ⟨rfl, N105, K105, pp105, HL105⟩ := Q105
    have A105_a79 := A104_a79.keep K105 (own_nm1 (Nat.ne_of_lt lq104_a79))
    have A105_a82 := A104_a82.keep K105 (own_nm1 (Nat.ne_of_lt lq104_a82))
    have A105_a85 := A104_a85.keep K105 (own_nm1 (Nat.ne_of_lt lq104_a85))
    have A105_a88 := A104_a88.keep K105 (own_nm1 (Nat.ne_of_lt lq104_a88))
    have A105_a91 := A104_a91.keep K105 (own_nm1 (Nat.ne_of_lt lq104_a91))
    have A105_a94 := A104_a94.keep K105 (own_nm1 (Nat.ne_of_lt lq104_a94))
    have A105_a96 := A104_a96.keep K105 (own_nm1 (Nat.ne_of_lt lq104_a96))
    have A105_a98 := A104_a98.keep K105 (own_nm1 (Nat.ne_of_lt lq104_a98))
    have A105_a100 := A104_a100.keep K105 (own_nm1 (Nat.ne_of_lt lq104_a100))
    have A105_a102 := A104_a102.keep K105 (own_nm1 (Nat.ne_of_lt lq104_a102))
    have Nn105 := Fr.app N103 N105
    have Z105 : n0 ≤ T105.heap.size := Nat.le_trans Z104 K105.1
    have O105 := O104.keep K105 (own_all1 Ge104)
    have S105 : OwS Z T105.heap n0 a104 1 14 16383 0 (fun _ => 0) := Or.inl ⟨rfl, _, HL105⟩
    have Kp105 := OwKp.refl T105.heap a104
    show OwF p e below _ T105 (mkF m 183 #[.val (.int q0), .val (.int q1), .val (.int q2), .val (.int q3), .val (.int q4), .val (.int q5), .val (.int (0 : Int32)), .val (.int ((XT.ushr q0 (1 : Int32)) &&& (3 : Int32))), .val (.int (own_law_j32 q0 q1 q2 q3 q4 q5)), .val (.int (own_min (2 : Int32) ((XT.ushr q0 (4 : Int32)) &&& (3 : Int32)))), .val (.ref a94), .val (.ref a96), .val (.ref a98), .val (.ref a100), .val (.ref a102), .unset, .unset] [(.ref a104)])
    refine ow_astore C X105 at_183 rfl (Ls' := #[.val (.int q0), .val (.int q1), .val (.int q2), .val (.int q3), .val (.int q4), .val (.int q5), .val (.int (0 : Int32)), .val (.int ((XT.ushr q0 (1 : Int32)) &&& (3 : Int32))), .val (.int (own_law_j32 q0 q1 q2 q3 q4 q5)), .val (.int (own_min (2 : Int32) ((XT.ushr q0 (4 : Int32)) &&& (3 : Int32)))), .val (.ref a94), .val (.ref a96), .val (.ref a98), .val (.ref a100), .val (.ref a102), .val (.ref a104), .unset]) rfl (pc' := 185) rfl ?_
    refine ow_iload C X105 at_185 rfl (pc' := 187) rfl ?_
    refine ow_joinH X105 (n0 := n0) (CC := 13) (SS := 16405) (P := fun h => ∃ f : Nat → Int32, OwS Z h n0 a104 1 14 16383 (own_n1 ((XT.ushr q0 (1 : Int32)) &&& (3 : Int32))) f ∧ OwKp T105.heap h a104) (f' := (mkF m 199 #[.val (.int q0), .val (.int q1), .val (.int q2), .val (.int q3), .val (.int q4), .val (.int q5), .val (.int (0 : Int32)), .val (.int ((XT.ushr q0 (1 : Int32)) &&& (3 : Int32))), .val (.int (own_law_j32 q0 q1 q2 q3 q4 q5)), .val (.int (own_min (2 : Int32) ((XT.ushr q0 (4 : Int32)) &&& (3 : Int32)))), .val (.ref a94), .val (.ref a96), .val (.ref a98), .val (.ref a100), .val (.ref a102), .val (.ref a104), .unset] [])) ?_ (fun T107 l107 X107 N107 P107 => ?_)
    · intro D107 jk107
      refine ow_if_le C X105 at_187 (pcT := 199) (pc' := 190) (by decide) (by decide) rfl (fun b187 => ?_) (fun b187 => ?_)
      · refine jk107 T105 _ (X105.more (Nat.le_of_ble_eq_true rfl) (Nat.le_of_ble_eq_true rfl)) Nn105 ?_
        exact ⟨(fun _ => 0), ((own_n1f b187).symm ▸ S105), Kp105⟩
      · refine ow_aload C X105 at_190 rfl rfl (pc' := 192) rfl ?_
        refine ow_iload C X105 at_192 rfl (pc' := 194) rfl ?_
        refine ow_aload C X105 at_194 rfl rfl (pc' := 196) rfl ?_
        refine ow_callS C X105 rfl (hw _ (List.mem_of_getElem? (i := 43) rfl)) (hw _ (List.mem_of_getElem? (i := 44) rfl)) (hw _ (List.mem_of_getElem? (i := 45) rfl)) (hw _ (List.mem_of_getElem? (i := 46) rfl)) (by decide) (rm_put1E l Z a0 hw a104 1 1 14 16383 (Or.inl ⟨rfl, rfl, rfl, rfl⟩) rfl 0 (by decide) (fun _ => 0) a94 (fun j => (if j = 0 then q1 else (0 : Int32))) T105.heap n0 Z105 O105 SA rfl S105 A105_a94 lq104_a94) pd_10 rfl (argsL := [(.ref a104), (.int (0 : Int32)), (.ref a94)]) (rest := []) rfl rfl at_196 (Nat.le_of_ble_eq_true rfl) (Nat.le_of_ble_eq_true rfl) (Nat.le_of_ble_eq_true rfl) (Nat.le_of_ble_eq_true rfl) (pc' := 199) rfl (fun T106 v106 L106 X106 Q106 => ?_)
        obtain ⟨rfl, N106, K106, f106, S106, u106, v106⟩ := Q106
        have Nn106 := Fr.app Nn105 N106
        have Kp106 := Kp105.trans K106
        show OwF p e below _ T106 (mkF m 199 #[.val (.int q0), .val (.int q1), .val (.int q2), .val (.int q3), .val (.int q4), .val (.int q5), .val (.int (0 : Int32)), .val (.int ((XT.ushr q0 (1 : Int32)) &&& (3 : Int32))), .val (.int (own_law_j32 q0 q1 q2 q3 q4 q5)), .val (.int (own_min (2 : Int32) ((XT.ushr q0 (4 : Int32)) &&& (3 : Int32)))), .val (.ref a94), .val (.ref a96), .val (.ref a98), .val (.ref a100), .val (.ref a102), .val (.ref a104), .unset] [])
        refine jk107 T106 _ (X106.more (Nat.le_of_ble_eq_true rfl) (Nat.le_of_ble_eq_true rfl)) Nn106 ?_
        exact ⟨f106, ((own_n1t b187).symm ▸ S106), Kp106⟩
    obtain ⟨f107, S107, Kp107⟩ := P107
    refine ow_iload C X107 at_199 rfl (pc' := 201) rfl ?_
    refine ow_iconst (1 : Int32) C X107 at_201 (by decide) (pc' := 202) rfl ?_
    refine ow_joinH X107 (n0 := n0) (CC := 13) (SS := 16405) (P := fun h => ∃ f : Nat → Int32, OwS Z h n0 a104 1 14 16383 (own_n2 ((XT.ushr q0 (1 : Int32)) &&& (3 : Int32))) f ∧ OwKp T105.heap h a104) (f' := (mkF m 214 #[.val (.int q0), .val (.int q1), .val (.int q2), .val (.int q3), .val (.int q4), .val (.int q5), .val (.int (0 : Int32)), .val (.int ((XT.ushr q0 (1 : Int32)) &&& (3 : Int32))), .val (.int (own_law_j32 q0 q1 q2 q3 q4 q5)), .val (.int (own_min (2 : Int32) ((XT.ushr q0 (4 : Int32)) &&& (3 : Int32)))), .val (.ref a94), .val (.ref a96), .val (.ref a98), .val (.ref a100), .val (.ref a102), .val (.ref a104), .unset] [])) ?_ (fun T109 l109 X109 N109 P109 => ?_)
    · intro D109 jk109
      refine ow_icmp_le C X107 at_202 (pcT := 214) (pc' := 205) (by decide) (by decide) rfl (fun b202 => ?_) (fun b202 => ?_)
      · refine jk109 T107 _ (X107.more (Nat.le_of_ble_eq_true rfl) (Nat.le_of_ble_eq_true rfl)) N107 ?_
        exact ⟨f107, ((own_n2f b202).symm ▸ S107), Kp107⟩
      · refine ow_aload C X107 at_205 rfl rfl (pc' := 207) rfl ?_
        refine ow_iload C X107 at_207 rfl (pc' := 209) rfl ?_
        refine ow_aload C X107 at_209 rfl rfl (pc' := 211) rfl ?_
        rw [own_n1t (own_lt01 b202)] at S107
        refine ow_callS C X107 rfl (hw _ (List.mem_of_getElem? (i := 43) rfl)) (hw _ (List.mem_of_getElem? (i := 44) rfl)) (hw _ (List.mem_of_getElem? (i := 45) rfl)) (hw _ (List.mem_of_getElem? (i := 46) rfl)) (by decide) (rm_put1F l Z a0 hw a104 1 1 14 16383 (Or.inl ⟨rfl, rfl, rfl, rfl⟩) rfl 1 (by decide) f107 a96 (fun j => (if j = 0 then q2 else (0 : Int32))) T107.heap n0 (Kp107.sz Z105) (Kp107.old O105 Ge104) SA (by decide) S107 (Kp107.arr A105_a96 lq104_a96) lq104_a96) pd_10 rfl (argsL := [(.ref a104), (.int (0 : Int32)), (.ref a96)]) (rest := []) rfl rfl at_211 (Nat.le_of_ble_eq_true rfl) (Nat.le_of_ble_eq_true rfl) (Nat.le_of_ble_eq_true rfl) (Nat.le_of_ble_eq_true rfl) (pc' := 214) rfl (fun T108 v108 L108 X108 Q108 => ?_)
        obtain ⟨rfl, N108, K108, f108, S108, u108, v108⟩ := Q108
        have Nn108 := Fr.app N107 N108
        have Kp108 := Kp107.trans K108
        show OwF p e below _ T108 (mkF m 214 #[.val (.int q0), .val (.int q1), .val (.int q2), .val (.int q3), .val (.int q4), .val (.int q5), .val (.int (0 : Int32)), .val (.int ((XT.ushr q0 (1 : Int32)) &&& (3 : Int32))), .val (.int (own_law_j32 q0 q1 q2 q3 q4 q5)), .val (.int (own_min (2 : Int32) ((XT.ushr q0 (4 : Int32)) &&& (3 : Int32)))), .val (.ref a94), .val (.ref a96), .val (.ref a98), .val (.ref a100), .val (.ref a102), .val (.ref a104), .unset] [])
        refine jk109 T108 _ (X108.more (Nat.le_of_ble_eq_true rfl) (Nat.le_of_ble_eq_true rfl)) Nn108 ?_
        exact ⟨f108, ((own_n2t b202).symm ▸ S108), Kp108⟩
    obtain ⟨f109, S109, Kp109⟩ := P109
    refine ow_iload C X109 at_214 rfl (pc' := 216) rfl ?_
    refine ow_iconst (2 : Int32) C X109 at_216 (by decide) (pc' := 217) rfl ?_
    refine ow_joinH X109 (n0 := n0) (CC := 13) (SS := 16405) (P := fun h => ∃ f : Nat → Int32, OwS Z h n0 a104 1 14 16383 (own_n3 ((XT.ushr q0 (1 : Int32)) &&& (3 : Int32))) f ∧ OwKp T105.heap h a104) (f' := (mkF m 229 #[.val (.int q0), .val (.int q1), .val (.int q2), .val (.int q3), .val (.int q4), .val (.int q5), .val (.int (0 : Int32)), .val (.int ((XT.ushr q0 (1 : Int32)) &&& (3 : Int32))), .val (.int (own_law_j32 q0 q1 q2 q3 q4 q5)), .val (.int (own_min (2 : Int32) ((XT.ushr q0 (4 : Int32)) &&& (3 : Int32)))), .val (.ref a94), .val (.ref a96), .val (.ref a98), .val (.ref a100), .val (.ref a102), .val (.ref a104), .unset] [])) ?_ (fun T111 l111 X111 N111 P111 => ?_)
    · intro D111 jk111
      refine ow_icmp_le C X109 at_217 (pcT := 229) (pc' := 220) (by decide) (by decide) rfl (fun b217 => ?_) (fun b217 => ?_)
      · refine jk111 T109 _ (X109.more (Nat.le_of_ble_eq_true rfl) (Nat.le_of_ble_eq_true rfl)) N109 ?_
        exact ⟨f109, ((own_n3f b217).symm ▸ S109), Kp109⟩
      · refine ow_aload C X109 at_220 rfl rfl (pc' := 222) rfl ?_
        refine ow_iload C X109 at_222 rfl (pc' := 224) rfl ?_
        refine ow_aload C X109 at_224 rfl rfl (pc' := 226) rfl ?_
        rw [own_n2t (own_lt12 b217)] at S109
        refine ow_callS C X109 rfl (hw _ (List.mem_of_getElem? (i := 43) rfl)) (hw _ (List.mem_of_getElem? (i := 44) rfl)) (hw _ (List.mem_of_getElem? (i := 45) rfl)) (hw _ (List.mem_of_getElem? (i := 46) rfl)) (by decide) (rm_put1F l Z a0 hw a104 1 1 14 16383 (Or.inl ⟨rfl, rfl, rfl, rfl⟩) rfl 2 (by decide) f109 a98 (fun j => (if j = 0 then q3 else (0 : Int32))) T109.heap n0 (Kp109.sz Z105) (Kp109.old O105 Ge104) SA (by decide) S109 (Kp109.arr A105_a98 lq104_a98) lq104_a98) pd_10 rfl (argsL := [(.ref a104), (.int (0 : Int32)), (.ref a98)]) (rest := []) rfl rfl at_226 (Nat.le_of_ble_eq_true rfl) (Nat.le_of_ble_eq_true rfl) (Nat.le_of_ble_eq_true rfl) (Nat.le_of_ble_eq_true rfl) (pc' := 229) rfl (fun T110 v110 L110 X110 Q110 => ?_)
        obtain ⟨rfl, N110, K110, f110, S110, u110, v110⟩ := Q110
        have Nn110 := Fr.app N109 N110
        have Kp110 := Kp109.trans K110
        show OwF p e below _ T110 (mkF m 229 #[.val (.int q0), .val (.int q1), .val (.int q2), .val (.int q3), .val (.int q4), .val (.int q5), .val (.int (0 : Int32)), .val (.int ((XT.ushr q0 (1 : Int32)) &&& (3 : Int32))), .val (.int (own_law_j32 q0 q1 q2 q3 q4 q5)), .val (.int (own_min (2 : Int32) ((XT.ushr q0 (4 : Int32)) &&& (3 : Int32)))), .val (.ref a94), .val (.ref a96), .val (.ref a98), .val (.ref a100), .val (.ref a102), .val (.ref a104), .unset] [])
        refine jk111 T110 _ (X110.more (Nat.le_of_ble_eq_true rfl) (Nat.le_of_ble_eq_true rfl)) Nn110 ?_
        exact ⟨f110, ((own_n3t b217).symm ▸ S110), Kp110⟩
    obtain ⟨f111, S111, Kp111⟩ := P111
    refine ow_aload C X111 at_229 rfl rfl (pc' := 231) rfl ?_
    obtain ⟨pc113, pv113, HC113⟩ := S111.any
    refine ow_callV C X111 rfl (hw _ (List.mem_of_getElem? (i := 31) rfl)) (hw _ (List.mem_of_getElem? (i := 32) rfl)) (hw _ (List.mem_of_getElem? (i := 34) rfl)) rfl (hw _ (List.mem_of_getElem? (i := 33) rfl)) (hw _ (List.mem_of_getElem? (i := 7) rfl)) (hw _ (List.mem_of_getElem? (i := 35) rfl)) (by decide) HC113.1 (rm_clear l Z a0 hw a104 _ 1 14 16383 (own_n3 ((XT.ushr q0 (1 : Int32)) &&& (3 : Int32))) _ T111.heap n0 (Kp111.sz Z105) HC113) pd_5 rfl (argsL := []) (rest := []) rfl rfl at_231 (Nat.le_of_ble_eq_true rfl) (Nat.le_of_ble_eq_true rfl) (Nat.le_of_ble_eq_true rfl) (Nat.le_of_ble_eq_true rfl) (pc' := 234) rfl (fun T112 v112 L112 X112 Q112 => ?_)
    obtain ⟨rfl, N112, K112, pp112, HL112⟩ := Q112
    have Nn112 := Fr.app N111 N112
    have Kp112 := Kp111.trans (OwKp.of1 K112)
    have S112 : OwS Z T112.heap n0 a104 1 14 16383 0 (fun _ => 0) := Or.inl ⟨rfl, _, HL112⟩
    show OwF p e below _ T112 (mkF m 234 #[.val (.int q0), .val (.int q1), .val (.int q2), .val (.int q3), .val (.int q4), .val (.int q5), .val (.int (0 : Int32)), .val (.int ((XT.ushr q0 (1 : Int32)) &&& (3 : Int32))), .val (.int (own_law_j32 q0 q1 q2 q3 q4 q5)), .val (.int (own_min (2 : Int32) ((XT.ushr q0 (4 : Int32)) &&& (3 : Int32)))), .val (.ref a94), .val (.ref a96), .val (.ref a98), .val (.ref a100), .val (.ref a102), .val (.ref a104), .unset] [])
    refine ow_iload C X112 at_234 rfl (pc' := 236) rfl ?_
    refine ow_joinH X112 (n0 := n0) (CC := 15) (SS := 16407) (P := fun h => ∃ f : Nat → Int32, OwS Z h n0 a104 1 14 16383 0 f ∧ OwKp T105.heap h a104) (f' := (mkF m 244 #[.val (.int q0), .val (.int q1), .val (.int q2), .val (.int q3), .val (.int q4), .val (.int q5), .val (.int (0 : Int32)), .val (.int ((XT.ushr q0 (1 : Int32)) &&& (3 : Int32))), .val (.int (own_law_j32 q0 q1 q2 q3 q4 q5)), .val (.int (own_min (2 : Int32) ((XT.ushr q0 (4 : Int32)) &&& (3 : Int32)))), .val (.ref a94), .val (.ref a96), .val (.ref a98), .val (.ref a100), .val (.ref a102), .val (.ref a104), .unset] [])) ?_ (fun T116 l116 X116 N116 P116 => ?_)
    · intro D116 jk116
      refine ow_if_eq C X112 at_236 (pcT := 244) (pc' := 239) (by decide) (by decide) rfl (fun b236 => ?_) (fun b236 => ?_)
      · refine jk116 T112 _ (X112.more (Nat.le_of_ble_eq_true rfl) (Nat.le_of_ble_eq_true rfl)) Nn112 ?_
        exact ⟨(fun _ => 0), S112, Kp112⟩
      · refine ow_aload C X112 at_239 rfl rfl (pc' := 241) rfl ?_
        obtain ⟨pc115, pv115, HC115⟩ := S112.any
        refine ow_callV C X112 rfl (hw _ (List.mem_of_getElem? (i := 31) rfl)) (hw _ (List.mem_of_getElem? (i := 32) rfl)) (hw _ (List.mem_of_getElem? (i := 34) rfl)) rfl (hw _ (List.mem_of_getElem? (i := 33) rfl)) (hw _ (List.mem_of_getElem? (i := 7) rfl)) (hw _ (List.mem_of_getElem? (i := 35) rfl)) (by decide) HC115.1 (rm_clear l Z a0 hw a104 _ 1 14 16383 0 _ T112.heap n0 (Kp112.sz Z105) HC115) pd_5 rfl (argsL := []) (rest := []) rfl rfl at_241 (Nat.le_of_ble_eq_true rfl) (Nat.le_of_ble_eq_true rfl) (Nat.le_of_ble_eq_true rfl) (Nat.le_of_ble_eq_true rfl) (pc' := 244) rfl (fun T114 v114 L114 X114 Q114 => ?_)
        obtain ⟨rfl, N114, K114, pp114, HL114⟩ := Q114
        have Nn114 := Fr.app Nn112 N114
        have Kp114 := Kp112.trans (OwKp.of1 K114)
        have S114 : OwS Z T114.heap n0 a104 1 14 16383 0 (fun _ => 0) := Or.inl ⟨rfl, _, HL114⟩
        show OwF p e below _ T114 (mkF m 244 #[.val (.int q0), .val (.int q1), .val (.int q2), .val (.int q3), .val (.int q4), .val (.int q5), .val (.int (0 : Int32)), .val (.int ((XT.ushr q0 (1 : Int32)) &&& (3 : Int32))), .val (.int (own_law_j32 q0 q1 q2 q3 q4 q5)), .val (.int (own_min (2 : Int32) ((XT.ushr q0 (4 : Int32)) &&& (3 : Int32)))), .val (.ref a94), .val (.ref a96), .val (.ref a98), .val (.ref a100), .val (.ref a102), .val (.ref a104), .unset] [])
        refine jk116 T114 _ (X114.more (Nat.le_of_ble_eq_true rfl) (Nat.le_of_ble_eq_true rfl)) Nn114 ?_
        exact ⟨(fun _ => 0), S114, Kp114⟩
    obtain ⟨f116, S116, Kp116⟩ := P116
    refine ow_aload C X116 at_244 rfl rfl (pc' := 246) rfl ?_
    obtain ⟨pc118, pv118, HC118⟩ := S116.any
    refine ow_callV C X116 rfl (hw _ (List.mem_of_getElem? (i := 38) rfl)) (hw _ (List.mem_of_getElem? (i := 39) rfl)) (hw _ (List.mem_of_getElem? (i := 41) rfl)) rfl (hw _ (List.mem_of_getElem? (i := 40) rfl)) (hw _ (List.mem_of_getElem? (i := 7) rfl)) (hw _ (List.mem_of_getElem? (i := 42) rfl)) (by decide) HC118.1 (rm_size l Z a0 hw a104 _ T116.heap HC118.2.2.2.2.2.1) pd_2 rfl (argsL := []) (rest := []) rfl rfl at_246 (Nat.le_of_ble_eq_true rfl) (Nat.le_of_ble_eq_true rfl) (Nat.le_of_ble_eq_true rfl) (Nat.le_of_ble_eq_true rfl) (pc' := 249) rfl (fun T117 v117 L117 X117 Q117 => ?_)
    obtain ⟨rfl, rfl, e117⟩ := Q117
    rw [List.append_nil] at X117
    show OwF p e below _ T117 (mkF m 249 #[.val (.int q0), .val (.int q1), .val (.int q2), .val (.int q3), .val (.int q4), .val (.int q5), .val (.int (0 : Int32)), .val (.int ((XT.ushr q0 (1 : Int32)) &&& (3 : Int32))), .val (.int (own_law_j32 q0 q1 q2 q3 q4 q5)), .val (.int (own_min (2 : Int32) ((XT.ushr q0 (4 : Int32)) &&& (3 : Int32)))), .val (.ref a94), .val (.ref a96), .val (.ref a98), .val (.ref a100), .val (.ref a102), .val (.ref a104), .unset] [(.long (own_size (Int64.ofNat 0)))])
    refine ow_lconst (0 : Int64) C X117 at_249 (by decide) (pc' := 250) rfl ?_
    refine ow_lcmp C X117 at_250 (pc' := 251) rfl ?_
    refine ow_lif_ne C X117 at_251 (pcT := 258) (pc' := 254) (by decide) (by decide) rfl (fun bq => absurd rfl bq) (fun _ => ?_)
    refine ow_iconst (1 : Int32) C X117 at_254 (by decide) (pc' := 255) rfl ?_
    refine ow_goto C X117 at_255 (pcT := 259) (by decide) (by decide) ?_
    refine ow_istore C X117 at_259 (Ls' := #[.val (.int q0), .val (.int q1), .val (.int q2), .val (.int q3), .val (.int q4), .val (.int q5), .val (.int (0 : Int32)), .val (.int ((XT.ushr q0 (1 : Int32)) &&& (3 : Int32))), .val (.int (own_law_j32 q0 q1 q2 q3 q4 q5)), .val (.int (own_min (2 : Int32) ((XT.ushr q0 (4 : Int32)) &&& (3 : Int32)))), .val (.ref a94), .val (.ref a96), .val (.ref a98), .val (.ref a100), .val (.ref a102), .val (.ref a104), .val (.int (1 : Int32))]) rfl (pc' := 261) rfl ?_
    refine ow_iload C X117 at_261 rfl (pc' := 263) rfl ?_
    refine ow_joinH X117 (n0 := n0) (CC := 16) (SS := 32791) (P := fun h => ∃ f : Nat → Int32, OwS Z h n0 a104 1 14 16383 (own_n1 (own_min (2 : Int32) ((XT.ushr q0 (4 : Int32)) &&& (3 : Int32)))) f ∧ OwKp T105.heap h a104 ∧ (0 < (own_min (2 : Int32) ((XT.ushr q0 (4 : Int32)) &&& (3 : Int32))) → ∀ j, j < 1 → f (0 * 1 + j) = (fun j => (if j = 0 then q4 else (0 : Int32))) j)) (f' := (mkF m 275 #[.val (.int q0), .val (.int q1), .val (.int q2), .val (.int q3), .val (.int q4), .val (.int q5), .val (.int (0 : Int32)), .val (.int ((XT.ushr q0 (1 : Int32)) &&& (3 : Int32))), .val (.int (own_law_j32 q0 q1 q2 q3 q4 q5)), .val (.int (own_min (2 : Int32) ((XT.ushr q0 (4 : Int32)) &&& (3 : Int32)))), .val (.ref a94), .val (.ref a96), .val (.ref a98), .val (.ref a100), .val (.ref a102), .val (.ref a104), .val (.int (1 : Int32))] [])) ?_ (fun T120 l120 X120 N120 P120 => ?_)
    · intro D120 jk120
      refine ow_if_le C X117 at_263 (pcT := 275) (pc' := 266) (by decide) (by decide) rfl (fun b263 => ?_) (fun b263 => ?_)
      · refine jk120 T117 _ (X117.more (Nat.le_of_ble_eq_true rfl) (Nat.le_of_ble_eq_true rfl)) N116 ?_
        rw [e117]
        exact ⟨f116, ((own_n1f b263).symm ▸ S116), Kp116, (fun b j hj => absurd b b263)⟩
      · refine ow_aload C X117 at_266 rfl rfl (pc' := 268) rfl ?_
        refine ow_iload C X117 at_268 rfl (pc' := 270) rfl ?_
        refine ow_aload C X117 at_270 rfl rfl (pc' := 272) rfl ?_
        refine ow_callS C X117 e117 (hw _ (List.mem_of_getElem? (i := 43) rfl)) (hw _ (List.mem_of_getElem? (i := 44) rfl)) (hw _ (List.mem_of_getElem? (i := 45) rfl)) (hw _ (List.mem_of_getElem? (i := 46) rfl)) (by decide) (rm_put1E l Z a0 hw a104 1 1 14 16383 (Or.inl ⟨rfl, rfl, rfl, rfl⟩) rfl 0 (by decide) f116 a100 (fun j => (if j = 0 then q4 else (0 : Int32))) T116.heap n0 (Kp116.sz Z105) (Kp116.old O105 Ge104) SA rfl S116 (Kp116.arr A105_a100 lq104_a100) lq104_a100) pd_10 rfl (argsL := [(.ref a104), (.int (0 : Int32)), (.ref a100)]) (rest := []) rfl rfl at_272 (Nat.le_of_ble_eq_true rfl) (Nat.le_of_ble_eq_true rfl) (Nat.le_of_ble_eq_true rfl) (Nat.le_of_ble_eq_true rfl) (pc' := 275) rfl (fun T119 v119 L119 X119 Q119 => ?_)
        obtain ⟨rfl, N119, K119, f119, S119, u119, v119⟩ := Q119
        have Nn119 := Fr.app N116 N119
        have Kp119 := Kp116.trans K119
        show OwF p e below _ T119 (mkF m 275 #[.val (.int q0), .val (.int q1), .val (.int q2), .val (.int q3), .val (.int q4), .val (.int q5), .val (.int (0 : Int32)), .val (.int ((XT.ushr q0 (1 : Int32)) &&& (3 : Int32))), .val (.int (own_law_j32 q0 q1 q2 q3 q4 q5)), .val (.int (own_min (2 : Int32) ((XT.ushr q0 (4 : Int32)) &&& (3 : Int32)))), .val (.ref a94), .val (.ref a96), .val (.ref a98), .val (.ref a100), .val (.ref a102), .val (.ref a104), .val (.int (1 : Int32))] [])
        refine jk120 T119 _ (X119.more (Nat.le_of_ble_eq_true rfl) (Nat.le_of_ble_eq_true rfl)) Nn119 ?_
        exact ⟨f119, ((own_n1t b263).symm ▸ S119), Kp119, (fun _ j hj => v119 j hj)⟩
    obtain ⟨f120, S120, Kp120, ua120⟩ := P120
    refine ow_iload C X120 at_275 rfl (pc' := 277) rfl ?_
    refine ow_iconst (1 : Int32) C X120 at_277 (by decide) (pc' := 278) rfl ?_
    refine ow_joinH X120 (n0 := n0) (CC := 16) (SS := 32791) (P := fun h => ∃ f : Nat → Int32, OwS Z h n0 a104 1 14 16383 (own_n2 (own_min (2 : Int32) ((XT.ushr q0 (4 : Int32)) &&& (3 : Int32)))) f ∧ OwKp T105.heap h a104 ∧ (0 < (own_min (2 : Int32) ((XT.ushr q0 (4 : Int32)) &&& (3 : Int32))) → ∀ j, j < 1 → f (0 * 1 + j) = (fun j => (if j = 0 then q4 else (0 : Int32))) j) ∧ (1 < (own_min (2 : Int32) ((XT.ushr q0 (4 : Int32)) &&& (3 : Int32))) → ∀ j, j < 1 → f (1 * 1 + j) = (fun j => (if j = 0 then q5 else (0 : Int32))) j)) (f' := (mkF m 290 #[.val (.int q0), .val (.int q1), .val (.int q2), .val (.int q3), .val (.int q4), .val (.int q5), .val (.int (0 : Int32)), .val (.int ((XT.ushr q0 (1 : Int32)) &&& (3 : Int32))), .val (.int (own_law_j32 q0 q1 q2 q3 q4 q5)), .val (.int (own_min (2 : Int32) ((XT.ushr q0 (4 : Int32)) &&& (3 : Int32)))), .val (.ref a94), .val (.ref a96), .val (.ref a98), .val (.ref a100), .val (.ref a102), .val (.ref a104), .val (.int (1 : Int32))] [])) ?_ (fun T122 l122 X122 N122 P122 => ?_)
    · intro D122 jk122
      refine ow_icmp_le C X120 at_278 (pcT := 290) (pc' := 281) (by decide) (by decide) rfl (fun b278 => ?_) (fun b278 => ?_)
      · refine jk122 T120 _ (X120.more (Nat.le_of_ble_eq_true rfl) (Nat.le_of_ble_eq_true rfl)) N120 ?_
        exact ⟨f120, ((own_n2f b278).symm ▸ S120), Kp120, (fun b j hj => ua120 b j hj), (fun b j hj => absurd b b278)⟩
      · refine ow_aload C X120 at_281 rfl rfl (pc' := 283) rfl ?_
        refine ow_iload C X120 at_283 rfl (pc' := 285) rfl ?_
        refine ow_aload C X120 at_285 rfl rfl (pc' := 287) rfl ?_
        rw [own_n1t (own_lt01 b278)] at S120
        refine ow_callS C X120 rfl (hw _ (List.mem_of_getElem? (i := 43) rfl)) (hw _ (List.mem_of_getElem? (i := 44) rfl)) (hw _ (List.mem_of_getElem? (i := 45) rfl)) (hw _ (List.mem_of_getElem? (i := 46) rfl)) (by decide) (rm_put1F l Z a0 hw a104 1 1 14 16383 (Or.inl ⟨rfl, rfl, rfl, rfl⟩) rfl 1 (by decide) f120 a102 (fun j => (if j = 0 then q5 else (0 : Int32))) T120.heap n0 (Kp120.sz Z105) (Kp120.old O105 Ge104) SA (by decide) S120 (Kp120.arr A105_a102 lq104_a102) lq104_a102) pd_10 rfl (argsL := [(.ref a104), (.int (0 : Int32)), (.ref a102)]) (rest := []) rfl rfl at_287 (Nat.le_of_ble_eq_true rfl) (Nat.le_of_ble_eq_true rfl) (Nat.le_of_ble_eq_true rfl) (Nat.le_of_ble_eq_true rfl) (pc' := 290) rfl (fun T121 v121 L121 X121 Q121 => ?_)
        obtain ⟨rfl, N121, K121, f121, S121, u121, v121⟩ := Q121
        have Nn121 := Fr.app N120 N121
        have Kp121 := Kp120.trans K121
        show OwF p e below _ T121 (mkF m 290 #[.val (.int q0), .val (.int q1), .val (.int q2), .val (.int q3), .val (.int q4), .val (.int q5), .val (.int (0 : Int32)), .val (.int ((XT.ushr q0 (1 : Int32)) &&& (3 : Int32))), .val (.int (own_law_j32 q0 q1 q2 q3 q4 q5)), .val (.int (own_min (2 : Int32) ((XT.ushr q0 (4 : Int32)) &&& (3 : Int32)))), .val (.ref a94), .val (.ref a96), .val (.ref a98), .val (.ref a100), .val (.ref a102), .val (.ref a104), .val (.int (1 : Int32))] [])
        refine jk122 T121 _ (X121.more (Nat.le_of_ble_eq_true rfl) (Nat.le_of_ble_eq_true rfl)) Nn121 ?_
        exact ⟨f121, ((own_n2t b278).symm ▸ S121), Kp121, (fun b j hj => (u121 _ (by omega)).trans (ua120 b j hj)), (fun _ j hj => v121 j hj)⟩
    obtain ⟨f122, S122, Kp122, ua122, ub122⟩ := P122
    refine ow_iload C X122 at_290 rfl (pc' := 292) rfl ?_
    refine ow_if_eq C X122 at_292 (pcT := 311) (pc' := 295) (by decide) (by decide) rfl (fun bq => absurd bq (by decide)) (fun _ => ?_)
    refine ow_aload C X122 at_295 rfl rfl (pc' := 297) rfl ?_
    obtain ⟨pc124, pv124, HC124⟩ := S122.any
    refine ow_callV C X122 rfl (hw _ (List.mem_of_getElem? (i := 38) rfl)) (hw _ (List.mem_of_getElem? (i := 39) rfl)) (hw _ (List.mem_of_getElem? (i := 41) rfl)) rfl (hw _ (List.mem_of_getElem? (i := 40) rfl)) (hw _ (List.mem_of_getElem? (i := 7) rfl)) (hw _ (List.mem_of_getElem? (i := 42) rfl)) (by decide) HC124.1 (rm_size l Z a0 hw a104 _ T122.heap HC124.2.2.2.2.2.1) pd_2 rfl (argsL := []) (rest := []) rfl rfl at_297 (Nat.le_of_ble_eq_true rfl) (Nat.le_of_ble_eq_true rfl) (Nat.le_of_ble_eq_true rfl) (Nat.le_of_ble_eq_true rfl) (pc' := 300) rfl (fun T123 v123 L123 X123 Q123 => ?_)
    obtain ⟨rfl, rfl, e123⟩ := Q123
    rw [List.append_nil] at X123
    show OwF p e below _ T123 (mkF m 300 #[.val (.int q0), .val (.int q1), .val (.int q2), .val (.int q3), .val (.int q4), .val (.int q5), .val (.int (0 : Int32)), .val (.int ((XT.ushr q0 (1 : Int32)) &&& (3 : Int32))), .val (.int (own_law_j32 q0 q1 q2 q3 q4 q5)), .val (.int (own_min (2 : Int32) ((XT.ushr q0 (4 : Int32)) &&& (3 : Int32)))), .val (.ref a94), .val (.ref a96), .val (.ref a98), .val (.ref a100), .val (.ref a102), .val (.ref a104), .val (.int (1 : Int32))] [(.long (own_size (Int64.ofNat (own_n2 (own_min (2 : Int32) ((XT.ushr q0 (4 : Int32)) &&& (3 : Int32)))))))])
    refine ow_iload C X123 at_300 rfl (pc' := 302) rfl ?_
    refine ow_i2l C X123 at_302 (pc' := 303) rfl ?_
    refine ow_lcmp C X123 at_303 (pc' := 304) rfl ?_
    refine ow_lif_ne C X123 at_304 (pcT := 311) (pc' := 307) (by decide) (by decide) rfl (fun bq => absurd (own_szp (own_post_rng _)) bq) (fun _ => ?_)
    refine ow_iconst (1 : Int32) C X123 at_307 (by decide) (pc' := 308) rfl ?_
    refine ow_goto C X123 at_308 (pcT := 312) (by decide) (by decide) ?_
    refine ow_istore C X123 at_312 (Ls' := #[.val (.int q0), .val (.int q1), .val (.int q2), .val (.int q3), .val (.int q4), .val (.int q5), .val (.int (0 : Int32)), .val (.int ((XT.ushr q0 (1 : Int32)) &&& (3 : Int32))), .val (.int (own_law_j32 q0 q1 q2 q3 q4 q5)), .val (.int (own_min (2 : Int32) ((XT.ushr q0 (4 : Int32)) &&& (3 : Int32)))), .val (.ref a94), .val (.ref a96), .val (.ref a98), .val (.ref a100), .val (.ref a102), .val (.ref a104), .val (.int (1 : Int32))]) rfl (pc' := 314) rfl ?_
    refine ow_iload C X123 at_314 rfl (pc' := 316) rfl ?_
    refine ow_if_le C X123 at_316 (pcT := 371) (pc' := 319) (by decide) (by decide) rfl (fun b316 => ?_) (fun b316 => ?_)
    · refine ow_iload C X123 at_371 rfl (pc' := 373) rfl ?_
      refine ow_iconst (1 : Int32) C X123 at_373 (by decide) (pc' := 374) rfl ?_
      refine ow_icmp_le C X123 at_374 (pcT := 429) (pc' := 377) (by decide) (by decide) rfl (fun _ => ?_) (fun bq => absurd bq (fun w => b316 (own_lt01 w)))
      refine ow_iload C X123 at_429 rfl (pc' := 431) rfl ?_
      exact ow_retZ C X123 at_431 (Nat.le_of_ble_eq_true rfl) (Nat.le_of_ble_eq_true rfl) (Or.inr rfl) ⟨rfl, N122⟩
    · refine ow_iload C X123 at_319 rfl (pc' := 321) rfl ?_
      refine ow_if_eq C X123 at_321 (pcT := 339) (pc' := 324) (by decide) (by decide) rfl (fun bq => absurd bq (by decide)) (fun _ => ?_)
      refine ow_aload C X123 at_324 rfl rfl (pc' := 326) rfl ?_
      refine ow_lconst (0 : Int64) C X123 at_326 (by decide) (pc' := 327) rfl ?_
      obtain ⟨pg126, qg126, HG126, AG126, gg126, ng126⟩ := own_full S122 (own_pos b316)
      refine ow_callV C X123 e123 (hw _ (List.mem_of_getElem? (i := 73) rfl)) (hw _ (List.mem_of_getElem? (i := 74) rfl)) (hw _ (List.mem_of_getElem? (i := 76) rfl)) rfl (hw _ (List.mem_of_getElem? (i := 75) rfl)) (hw _ (List.mem_of_getElem? (i := 7) rfl)) (hw _ (List.mem_of_getElem? (i := 77) rfl)) (by decide) HG126.1 (rm_get1 l Z a0 hw a104 _ 1 1 14 16383 (Or.inl ⟨rfl, rfl, rfl, rfl⟩) (own_n2 (own_min (2 : Int32) ((XT.ushr q0 (4 : Int32)) &&& (3 : Int32)))) (own_n3le _).2 T122.heap n0 (Kp122.sz Z105) (Kp122.old O105 Ge104) SA _ f122 0 (by decide) HG126 AG126 gg126 ng126) pd_3 rfl (argsL := [(.long (0 : Int64))]) (rest := []) rfl rfl at_327 (Nat.le_of_ble_eq_true rfl) (Nat.le_of_ble_eq_true rfl) (Nat.le_of_ble_eq_true rfl) (Nat.le_of_ble_eq_true rfl) (pc' := 330) rfl (fun T125 v125 L125 X125 Q125 => ?_)
      obtain ⟨rfl, rfl, e125⟩ := Q125
      rw [List.append_nil] at X125
      rw [show f122 (0 * 1 + 0) = q4 from (ua122 b316 0 (by decide)).trans rfl]
      show OwF p e below _ T125 (mkF m 330 #[.val (.int q0), .val (.int q1), .val (.int q2), .val (.int q3), .val (.int q4), .val (.int q5), .val (.int (0 : Int32)), .val (.int ((XT.ushr q0 (1 : Int32)) &&& (3 : Int32))), .val (.int (own_law_j32 q0 q1 q2 q3 q4 q5)), .val (.int (own_min (2 : Int32) ((XT.ushr q0 (4 : Int32)) &&& (3 : Int32)))), .val (.ref a94), .val (.ref a96), .val (.ref a98), .val (.ref a100), .val (.ref a102), .val (.ref a104), .val (.int (1 : Int32))] [(.int q4)])
      refine ow_iload C X125 at_330 rfl (pc' := 332) rfl ?_
      refine ow_icmp_ne C X125 at_332 (pcT := 339) (pc' := 335) (by decide) (by decide) rfl (fun bq => absurd rfl bq) (fun _ => ?_)
      refine ow_iconst (1 : Int32) C X125 at_335 (by decide) (pc' := 336) rfl ?_
      refine ow_goto C X125 at_336 (pcT := 340) (by decide) (by decide) ?_
      refine ow_istore C X125 at_340 (Ls' := #[.val (.int q0), .val (.int q1), .val (.int q2), .val (.int q3), .val (.int q4), .val (.int q5), .val (.int (0 : Int32)), .val (.int ((XT.ushr q0 (1 : Int32)) &&& (3 : Int32))), .val (.int (own_law_j32 q0 q1 q2 q3 q4 q5)), .val (.int (own_min (2 : Int32) ((XT.ushr q0 (4 : Int32)) &&& (3 : Int32)))), .val (.ref a94), .val (.ref a96), .val (.ref a98), .val (.ref a100), .val (.ref a102), .val (.ref a104), .val (.int (1 : Int32))]) rfl (pc' := 342) rfl ?_
      refine ow_iload C X125 at_342 rfl (pc' := 344) rfl ?_
      refine ow_if_eq C X125 at_344 (pcT := 371) (pc' := 347) (by decide) (by decide) rfl (fun _ => ?_) (fun bq => absurd (by decide) bq)
      refine ow_iload C X125 at_371 rfl (pc' := 373) rfl ?_
      refine ow_iconst (1 : Int32) C X125 at_373 (by decide) (pc' := 374) rfl ?_
      refine ow_icmp_le C X125 at_374 (pcT := 429) (pc' := 377) (by decide) (by decide) rfl (fun b374 => ?_) (fun b374 => ?_)
      · refine ow_iload C X125 at_429 rfl (pc' := 431) rfl ?_
        exact ow_retZ C X125 at_431 (Nat.le_of_ble_eq_true rfl) (Nat.le_of_ble_eq_true rfl) (Or.inr rfl) ⟨rfl, N122⟩
      · refine ow_iload C X125 at_377 rfl (pc' := 379) rfl ?_
        refine ow_if_eq C X125 at_379 (pcT := 397) (pc' := 382) (by decide) (by decide) rfl (fun bq => absurd bq (by decide)) (fun _ => ?_)
        refine ow_aload C X125 at_382 rfl rfl (pc' := 384) rfl ?_
        refine ow_lconst (1 : Int64) C X125 at_384 (by decide) (pc' := 385) rfl ?_
        obtain ⟨pg128, qg128, HG128, AG128, gg128, ng128⟩ := own_full S122 (own_pos b316)
        refine ow_callV C X125 e125 (hw _ (List.mem_of_getElem? (i := 73) rfl)) (hw _ (List.mem_of_getElem? (i := 74) rfl)) (hw _ (List.mem_of_getElem? (i := 76) rfl)) rfl (hw _ (List.mem_of_getElem? (i := 75) rfl)) (hw _ (List.mem_of_getElem? (i := 7) rfl)) (hw _ (List.mem_of_getElem? (i := 77) rfl)) (by decide) HG128.1 (rm_get1 l Z a0 hw a104 _ 1 1 14 16383 (Or.inl ⟨rfl, rfl, rfl, rfl⟩) (own_n2 (own_min (2 : Int32) ((XT.ushr q0 (4 : Int32)) &&& (3 : Int32)))) (own_n3le _).2 T122.heap n0 (Kp122.sz Z105) (Kp122.old O105 Ge104) SA _ f122 1 (by decide) HG128 AG128 gg128 ng128) pd_3 rfl (argsL := [(.long (1 : Int64))]) (rest := []) rfl rfl at_385 (Nat.le_of_ble_eq_true rfl) (Nat.le_of_ble_eq_true rfl) (Nat.le_of_ble_eq_true rfl) (Nat.le_of_ble_eq_true rfl) (pc' := 388) rfl (fun T127 v127 L127 X127 Q127 => ?_)
        obtain ⟨rfl, rfl, e127⟩ := Q127
        rw [List.append_nil] at X127
        rw [show f122 (1 * 1 + 0) = q5 from (ub122 b374 0 (by decide)).trans rfl]
        show OwF p e below _ T127 (mkF m 388 #[.val (.int q0), .val (.int q1), .val (.int q2), .val (.int q3), .val (.int q4), .val (.int q5), .val (.int (0 : Int32)), .val (.int ((XT.ushr q0 (1 : Int32)) &&& (3 : Int32))), .val (.int (own_law_j32 q0 q1 q2 q3 q4 q5)), .val (.int (own_min (2 : Int32) ((XT.ushr q0 (4 : Int32)) &&& (3 : Int32)))), .val (.ref a94), .val (.ref a96), .val (.ref a98), .val (.ref a100), .val (.ref a102), .val (.ref a104), .val (.int (1 : Int32))] [(.int q5)])
        refine ow_iload C X127 at_388 rfl (pc' := 390) rfl ?_
        refine ow_icmp_ne C X127 at_390 (pcT := 397) (pc' := 393) (by decide) (by decide) rfl (fun bq => absurd rfl bq) (fun _ => ?_)
        refine ow_iconst (1 : Int32) C X127 at_393 (by decide) (pc' := 394) rfl ?_
        refine ow_goto C X127 at_394 (pcT := 398) (by decide) (by decide) ?_
        refine ow_istore C X127 at_398 (Ls' := #[.val (.int q0), .val (.int q1), .val (.int q2), .val (.int q3), .val (.int q4), .val (.int q5), .val (.int (0 : Int32)), .val (.int ((XT.ushr q0 (1 : Int32)) &&& (3 : Int32))), .val (.int (own_law_j32 q0 q1 q2 q3 q4 q5)), .val (.int (own_min (2 : Int32) ((XT.ushr q0 (4 : Int32)) &&& (3 : Int32)))), .val (.ref a94), .val (.ref a96), .val (.ref a98), .val (.ref a100), .val (.ref a102), .val (.ref a104), .val (.int (1 : Int32))]) rfl (pc' := 400) rfl ?_
        refine ow_iload C X127 at_400 rfl (pc' := 402) rfl ?_
        refine ow_if_eq C X127 at_402 (pcT := 429) (pc' := 405) (by decide) (by decide) rfl (fun _ => ?_) (fun bq => absurd (by decide) bq)
        refine ow_iload C X127 at_429 rfl (pc' := 431) rfl ?_
        exact ow_retZ C X127 at_431 (Nat.le_of_ble_eq_true rfl) (Nat.le_of_ble_eq_true rfl) (Or.inr rfl) ⟨rfl, N122⟩
  · refine ow_iconst (1 : Int32) C X0 at_6 (by decide) (pc' := 7) rfl ?_
    refine ow_goto C X0 at_7 (pcT := 11) (by decide) (by decide) ?_
    refine ow_istore C X0 at_11 (Ls' := #[.val (.int q0), .val (.int q1), .val (.int q2), .val (.int q3), .val (.int q4), .val (.int q5), .val (.int (1 : Int32)), .unset, .unset, .unset, .unset, .unset, .unset, .unset, .unset, .unset, .unset]) rfl (pc' := 13) rfl ?_
    refine ow_iloadN C X0 at_13 rfl (pc' := 14) rfl ?_
    refine ow_iconst (1 : Int32) C X0 at_14 (by decide) (pc' := 15) rfl ?_
    refine ow_iushr C X0 at_15 (pc' := 16) rfl ?_
    refine ow_iconst (3 : Int32) C X0 at_16 (by decide) (pc' := 17) rfl ?_
    refine ow_iand C X0 at_17 (pc' := 18) rfl ?_
    refine ow_istore C X0 at_18 (Ls' := #[.val (.int q0), .val (.int q1), .val (.int q2), .val (.int q3), .val (.int q4), .val (.int q5), .val (.int (1 : Int32)), .val (.int ((XT.ushr q0 (1 : Int32)) &&& (3 : Int32))), .unset, .unset, .unset, .unset, .unset, .unset, .unset, .unset, .unset]) rfl (pc' := 20) rfl ?_
    refine ow_iloadN C X0 at_20 rfl (pc' := 21) rfl ?_
    refine ow_bipush (8 : Int32) C X0 at_21 (by decide) (pc' := 23) rfl ?_
    refine ow_iand C X0 at_23 (pc' := 24) rfl ?_
    refine ow_join X0 e0 (f' := (mkF m 32 #[.val (.int q0), .val (.int q1), .val (.int q2), .val (.int q3), .val (.int q4), .val (.int q5), .val (.int (1 : Int32)), .val (.int ((XT.ushr q0 (1 : Int32)) &&& (3 : Int32))), .unset, .unset, .unset, .unset, .unset, .unset, .unset, .unset, .unset] [(.int (own_law_j32 q0 q1 q2 q3 q4 q5))])) ?_ (fun T129 X129 e129 => ?_)
    · intro D129 jk129
      refine ow_if_eq C X0 at_24 (pcT := 31) (pc' := 27) (by decide) (by decide) rfl (fun b24 => ?_) (fun b24 => ?_)
      · refine ow_iconst (0 : Int32) C X0 at_31 (by decide) (pc' := 32) rfl ?_
        have jq := jk129 s₁ X0 e0
        rw [show (own_law_j32 q0 q1 q2 q3 q4 q5) = (0 : Int32) from by unfold own_law_j32; (try rw [if_pos b24]); (try rfl)] at jq
        exact jq
      · refine ow_iconst (1 : Int32) C X0 at_27 (by decide) (pc' := 28) rfl ?_
        refine ow_goto C X0 at_28 (pcT := 32) (by decide) (by decide) ?_
        have jq := jk129 s₁ X0 e0
        rw [show (own_law_j32 q0 q1 q2 q3 q4 q5) = (1 : Int32) from by unfold own_law_j32; (try rw [if_neg b24]); (try rfl)] at jq
        exact jq
    refine ow_istore C X129 at_32 (Ls' := #[.val (.int q0), .val (.int q1), .val (.int q2), .val (.int q3), .val (.int q4), .val (.int q5), .val (.int (1 : Int32)), .val (.int ((XT.ushr q0 (1 : Int32)) &&& (3 : Int32))), .val (.int (own_law_j32 q0 q1 q2 q3 q4 q5)), .unset, .unset, .unset, .unset, .unset, .unset, .unset, .unset]) rfl (pc' := 34) rfl ?_
    refine ow_iconst (2 : Int32) C X129 at_34 (by decide) (pc' := 35) rfl ?_
    refine ow_iloadN C X129 at_35 rfl (pc' := 36) rfl ?_
    refine ow_iconst (4 : Int32) C X129 at_36 (by decide) (pc' := 37) rfl ?_
    refine ow_iushr C X129 at_37 (pc' := 38) rfl ?_
    refine ow_iconst (3 : Int32) C X129 at_38 (by decide) (pc' := 39) rfl ?_
    refine ow_iand C X129 at_39 (pc' := 40) rfl ?_
    refine ow_callSP C X129 e129 (hw _ (List.mem_of_getElem? (i := 0) rfl)) (hw _ (List.mem_of_getElem? (i := 1) rfl)) (hw _ (List.mem_of_getElem? (i := 2) rfl)) (hw _ (List.mem_of_getElem? (i := 3) rfl)) (by decide) (rm_min l Z a0 hw (2 : Int32) ((XT.ushr q0 (4 : Int32)) &&& (3 : Int32)) h0) ⟨rfl, rfl⟩ pd_0 rfl (argsL := [(.int (2 : Int32)), (.int ((XT.ushr q0 (4 : Int32)) &&& (3 : Int32)))]) (rest := []) rfl rfl at_40 (Nat.le_of_ble_eq_true rfl) (Nat.le_of_ble_eq_true rfl) (Nat.le_of_ble_eq_true rfl) (Nat.le_of_ble_eq_true rfl) (pc' := 43) rfl (fun T130 X130 e130 => ?_)
    refine ow_istore C X130 at_43 (Ls' := #[.val (.int q0), .val (.int q1), .val (.int q2), .val (.int q3), .val (.int q4), .val (.int q5), .val (.int (1 : Int32)), .val (.int ((XT.ushr q0 (1 : Int32)) &&& (3 : Int32))), .val (.int (own_law_j32 q0 q1 q2 q3 q4 q5)), .val (.int (own_min (2 : Int32) ((XT.ushr q0 (4 : Int32)) &&& (3 : Int32)))), .unset, .unset, .unset, .unset, .unset, .unset, .unset]) rfl (pc' := 45) rfl ?_
    refine ow_iconst (2 : Int32) C X130 at_45 (by decide) (pc' := 46) rfl ?_
    refine ow_newarr C X130 e130 (hw _ (List.mem_of_getElem? (i := 4) rfl)) at_46 (N := 2) (cap := 2) (by decide) (by decide) (Nat.le_of_ble_eq_true rfl) (Nat.le_of_ble_eq_true rfl) (Nat.le_of_ble_eq_true rfl) (Nat.le_of_ble_eq_true rfl) (pc' := 48) rfl (fun T131 h131 a131 g131 X131 e131 Ex131 A131 => ?_)
    have A131 : OwA Z h131 a131 .int 2 (fun _ => .int 0) := A131
    have Ge131 : n0 ≤ a131 := Nat.le_trans Z0 (Nat.le_of_eq g131.symm)
    have Z131 : n0 ≤ h131.size := Nat.le_trans Z0 Ex131.1
    have O131 := O0.ext Ex131
    refine ow_dup C X131 at_48 rfl (pc' := 49) rfl ?_
    refine ow_iconst (0 : Int32) C X131 at_49 (by decide) (pc' := 50) rfl ?_
    refine ow_iloadN C X131 at_50 rfl (pc' := 51) rfl ?_
    refine ow_iastore (i := 0) C X131 e131 A131 (by decide) (by decide) (Nat.le_of_ble_eq_true rfl) at_51 (pc' := 52) rfl (fun T132 h132 X132 e132 W132 => ?_)
    have A132 : OwA Z h132 a131 .int 2 (fun j => .int (if j = 0 then q1 else (0 : Int32))) := (A131.set W132).congr (fun j _ => by (try dsimp only); split <;> rfl)
    have N132 := Fr.snoc X132 (Fr.nil n0) Ge131
    have Z132 : n0 ≤ h132.size := by rw [W132.size]; exact Z131
    have O132 := O131.wr W132 Ge131
    refine ow_dup C X132 at_52 rfl (pc' := 53) rfl ?_
    refine ow_iconst (1 : Int32) C X132 at_53 (by decide) (pc' := 54) rfl ?_
    refine ow_iloadN C X132 at_54 rfl (pc' := 55) rfl ?_
    refine ow_iastore (i := 1) C X132 e132 A132 (by decide) (by decide) (Nat.le_of_ble_eq_true rfl) at_55 (pc' := 56) rfl (fun T133 h133 X133 e133 W133 => ?_)
    have A133 : OwA Z h133 a131 .int 2 (fun j => .int (if j = 1 then q2 else (if j = 0 then q1 else (0 : Int32)))) := (A132.set W133).congr (fun j _ => by (try dsimp only); split <;> rfl)
    have N133 := Fr.snoc X133 N132 Ge131
    have Z133 : n0 ≤ h133.size := by rw [W133.size]; exact Z132
    have O133 := O132.wr W133 Ge131
    refine ow_astore C X133 at_56 rfl (Ls' := #[.val (.int q0), .val (.int q1), .val (.int q2), .val (.int q3), .val (.int q4), .val (.int q5), .val (.int (1 : Int32)), .val (.int ((XT.ushr q0 (1 : Int32)) &&& (3 : Int32))), .val (.int (own_law_j32 q0 q1 q2 q3 q4 q5)), .val (.int (own_min (2 : Int32) ((XT.ushr q0 (4 : Int32)) &&& (3 : Int32)))), .val (.ref a131), .unset, .unset, .unset, .unset, .unset, .unset]) rfl (pc' := 58) rfl ?_
    refine ow_iconst (2 : Int32) C X133 at_58 (by decide) (pc' := 59) rfl ?_
    refine ow_newarr C X133 e133 (hw _ (List.mem_of_getElem? (i := 4) rfl)) at_59 (N := 2) (cap := 2) (by decide) (by decide) (Nat.le_of_ble_eq_true rfl) (Nat.le_of_ble_eq_true rfl) (Nat.le_of_ble_eq_true rfl) (Nat.le_of_ble_eq_true rfl) (pc' := 61) rfl (fun T134 h134 a134 g134 X134 e134 Ex134 A134 => ?_)
    have A134 : OwA Z h134 a134 .int 2 (fun _ => .int 0) := A134
    have lq134_a131 : a131 < a134 := Nat.lt_of_lt_of_le A133.lt (Nat.le_of_eq g134.symm)
    have A134_a131 := A133.ext Ex134
    have Ge134 : n0 ≤ a134 := Nat.le_trans Z133 (Nat.le_of_eq g134.symm)
    have Z134 : n0 ≤ h134.size := Nat.le_trans Z133 Ex134.1
    have O134 := O133.ext Ex134
    refine ow_dup C X134 at_61 rfl (pc' := 62) rfl ?_
    refine ow_iconst (0 : Int32) C X134 at_62 (by decide) (pc' := 63) rfl ?_
    refine ow_iloadN C X134 at_63 rfl (pc' := 64) rfl ?_
    refine ow_iastore (i := 0) C X134 e134 A134 (by decide) (by decide) (Nat.le_of_ble_eq_true rfl) at_64 (pc' := 65) rfl (fun T135 h135 X135 e135 W135 => ?_)
    have A135_a131 := A134_a131.other W135 (Nat.ne_of_lt lq134_a131)
    have A135 : OwA Z h135 a134 .int 2 (fun j => .int (if j = 0 then q2 else (0 : Int32))) := (A134.set W135).congr (fun j _ => by (try dsimp only); split <;> rfl)
    have N135 := Fr.snoc X135 N133 Ge134
    have Z135 : n0 ≤ h135.size := by rw [W135.size]; exact Z134
    have O135 := O134.wr W135 Ge134
    refine ow_dup C X135 at_65 rfl (pc' := 66) rfl ?_
    refine ow_iconst (1 : Int32) C X135 at_66 (by decide) (pc' := 67) rfl ?_
    refine ow_iloadN C X135 at_67 rfl (pc' := 68) rfl ?_
    refine ow_iastore (i := 1) C X135 e135 A135 (by decide) (by decide) (Nat.le_of_ble_eq_true rfl) at_68 (pc' := 69) rfl (fun T136 h136 X136 e136 W136 => ?_)
    have A136_a131 := A135_a131.other W136 (Nat.ne_of_lt lq134_a131)
    have A136 : OwA Z h136 a134 .int 2 (fun j => .int (if j = 1 then q3 else (if j = 0 then q2 else (0 : Int32)))) := (A135.set W136).congr (fun j _ => by (try dsimp only); split <;> rfl)
    have N136 := Fr.snoc X136 N135 Ge134
    have Z136 : n0 ≤ h136.size := by rw [W136.size]; exact Z135
    have O136 := O135.wr W136 Ge134
    refine ow_astore C X136 at_69 rfl (Ls' := #[.val (.int q0), .val (.int q1), .val (.int q2), .val (.int q3), .val (.int q4), .val (.int q5), .val (.int (1 : Int32)), .val (.int ((XT.ushr q0 (1 : Int32)) &&& (3 : Int32))), .val (.int (own_law_j32 q0 q1 q2 q3 q4 q5)), .val (.int (own_min (2 : Int32) ((XT.ushr q0 (4 : Int32)) &&& (3 : Int32)))), .val (.ref a131), .val (.ref a134), .unset, .unset, .unset, .unset, .unset]) rfl (pc' := 71) rfl ?_
    refine ow_iconst (2 : Int32) C X136 at_71 (by decide) (pc' := 72) rfl ?_
    refine ow_newarr C X136 e136 (hw _ (List.mem_of_getElem? (i := 4) rfl)) at_72 (N := 2) (cap := 2) (by decide) (by decide) (Nat.le_of_ble_eq_true rfl) (Nat.le_of_ble_eq_true rfl) (Nat.le_of_ble_eq_true rfl) (Nat.le_of_ble_eq_true rfl) (pc' := 74) rfl (fun T137 h137 a137 g137 X137 e137 Ex137 A137 => ?_)
    have A137 : OwA Z h137 a137 .int 2 (fun _ => .int 0) := A137
    have lq137_a131 : a131 < a137 := Nat.lt_of_lt_of_le A136_a131.lt (Nat.le_of_eq g137.symm)
    have lq137_a134 : a134 < a137 := Nat.lt_of_lt_of_le A136.lt (Nat.le_of_eq g137.symm)
    have A137_a131 := A136_a131.ext Ex137
    have A137_a134 := A136.ext Ex137
    have Ge137 : n0 ≤ a137 := Nat.le_trans Z136 (Nat.le_of_eq g137.symm)
    have Z137 : n0 ≤ h137.size := Nat.le_trans Z136 Ex137.1
    have O137 := O136.ext Ex137
    refine ow_dup C X137 at_74 rfl (pc' := 75) rfl ?_
    refine ow_iconst (0 : Int32) C X137 at_75 (by decide) (pc' := 76) rfl ?_
    refine ow_iloadN C X137 at_76 rfl (pc' := 77) rfl ?_
    refine ow_iastore (i := 0) C X137 e137 A137 (by decide) (by decide) (Nat.le_of_ble_eq_true rfl) at_77 (pc' := 78) rfl (fun T138 h138 X138 e138 W138 => ?_)
    have A138_a131 := A137_a131.other W138 (Nat.ne_of_lt lq137_a131)
    have A138_a134 := A137_a134.other W138 (Nat.ne_of_lt lq137_a134)
    have A138 : OwA Z h138 a137 .int 2 (fun j => .int (if j = 0 then q3 else (0 : Int32))) := (A137.set W138).congr (fun j _ => by (try dsimp only); split <;> rfl)
    have N138 := Fr.snoc X138 N136 Ge137
    have Z138 : n0 ≤ h138.size := by rw [W138.size]; exact Z137
    have O138 := O137.wr W138 Ge137
    refine ow_dup C X138 at_78 rfl (pc' := 79) rfl ?_
    refine ow_iconst (1 : Int32) C X138 at_79 (by decide) (pc' := 80) rfl ?_
    refine ow_iloadN C X138 at_80 rfl (pc' := 81) rfl ?_
    refine ow_iastore (i := 1) C X138 e138 A138 (by decide) (by decide) (Nat.le_of_ble_eq_true rfl) at_81 (pc' := 82) rfl (fun T139 h139 X139 e139 W139 => ?_)
    have A139_a131 := A138_a131.other W139 (Nat.ne_of_lt lq137_a131)
    have A139_a134 := A138_a134.other W139 (Nat.ne_of_lt lq137_a134)
    have A139 : OwA Z h139 a137 .int 2 (fun j => .int (if j = 1 then q1 else (if j = 0 then q3 else (0 : Int32)))) := (A138.set W139).congr (fun j _ => by (try dsimp only); split <;> rfl)
    have N139 := Fr.snoc X139 N138 Ge137
    have Z139 : n0 ≤ h139.size := by rw [W139.size]; exact Z138
    have O139 := O138.wr W139 Ge137
    refine ow_astore C X139 at_82 rfl (Ls' := #[.val (.int q0), .val (.int q1), .val (.int q2), .val (.int q3), .val (.int q4), .val (.int q5), .val (.int (1 : Int32)), .val (.int ((XT.ushr q0 (1 : Int32)) &&& (3 : Int32))), .val (.int (own_law_j32 q0 q1 q2 q3 q4 q5)), .val (.int (own_min (2 : Int32) ((XT.ushr q0 (4 : Int32)) &&& (3 : Int32)))), .val (.ref a131), .val (.ref a134), .val (.ref a137), .unset, .unset, .unset, .unset]) rfl (pc' := 84) rfl ?_
    refine ow_iconst (2 : Int32) C X139 at_84 (by decide) (pc' := 85) rfl ?_
    refine ow_newarr C X139 e139 (hw _ (List.mem_of_getElem? (i := 4) rfl)) at_85 (N := 2) (cap := 2) (by decide) (by decide) (Nat.le_of_ble_eq_true rfl) (Nat.le_of_ble_eq_true rfl) (Nat.le_of_ble_eq_true rfl) (Nat.le_of_ble_eq_true rfl) (pc' := 87) rfl (fun T140 h140 a140 g140 X140 e140 Ex140 A140 => ?_)
    have A140 : OwA Z h140 a140 .int 2 (fun _ => .int 0) := A140
    have lq140_a131 : a131 < a140 := Nat.lt_of_lt_of_le A139_a131.lt (Nat.le_of_eq g140.symm)
    have lq140_a134 : a134 < a140 := Nat.lt_of_lt_of_le A139_a134.lt (Nat.le_of_eq g140.symm)
    have lq140_a137 : a137 < a140 := Nat.lt_of_lt_of_le A139.lt (Nat.le_of_eq g140.symm)
    have A140_a131 := A139_a131.ext Ex140
    have A140_a134 := A139_a134.ext Ex140
    have A140_a137 := A139.ext Ex140
    have Ge140 : n0 ≤ a140 := Nat.le_trans Z139 (Nat.le_of_eq g140.symm)
    have Z140 : n0 ≤ h140.size := Nat.le_trans Z139 Ex140.1
    have O140 := O139.ext Ex140
    refine ow_dup C X140 at_87 rfl (pc' := 88) rfl ?_
    refine ow_iconst (0 : Int32) C X140 at_88 (by decide) (pc' := 89) rfl ?_
    refine ow_iload C X140 at_89 rfl (pc' := 91) rfl ?_
    refine ow_iastore (i := 0) C X140 e140 A140 (by decide) (by decide) (Nat.le_of_ble_eq_true rfl) at_91 (pc' := 92) rfl (fun T141 h141 X141 e141 W141 => ?_)
    have A141_a131 := A140_a131.other W141 (Nat.ne_of_lt lq140_a131)
    have A141_a134 := A140_a134.other W141 (Nat.ne_of_lt lq140_a134)
    have A141_a137 := A140_a137.other W141 (Nat.ne_of_lt lq140_a137)
    have A141 : OwA Z h141 a140 .int 2 (fun j => .int (if j = 0 then q4 else (0 : Int32))) := (A140.set W141).congr (fun j _ => by (try dsimp only); split <;> rfl)
    have N141 := Fr.snoc X141 N139 Ge140
    have Z141 : n0 ≤ h141.size := by rw [W141.size]; exact Z140
    have O141 := O140.wr W141 Ge140
    refine ow_dup C X141 at_92 rfl (pc' := 93) rfl ?_
    refine ow_iconst (1 : Int32) C X141 at_93 (by decide) (pc' := 94) rfl ?_
    refine ow_iload C X141 at_94 rfl (pc' := 96) rfl ?_
    refine ow_iastore (i := 1) C X141 e141 A141 (by decide) (by decide) (Nat.le_of_ble_eq_true rfl) at_96 (pc' := 97) rfl (fun T142 h142 X142 e142 W142 => ?_)
    have A142_a131 := A141_a131.other W142 (Nat.ne_of_lt lq140_a131)
    have A142_a134 := A141_a134.other W142 (Nat.ne_of_lt lq140_a134)
    have A142_a137 := A141_a137.other W142 (Nat.ne_of_lt lq140_a137)
    have A142 : OwA Z h142 a140 .int 2 (fun j => .int (if j = 1 then q5 else (if j = 0 then q4 else (0 : Int32)))) := (A141.set W142).congr (fun j _ => by (try dsimp only); split <;> rfl)
    have N142 := Fr.snoc X142 N141 Ge140
    have Z142 : n0 ≤ h142.size := by rw [W142.size]; exact Z141
    have O142 := O141.wr W142 Ge140
    refine ow_astore C X142 at_97 rfl (Ls' := #[.val (.int q0), .val (.int q1), .val (.int q2), .val (.int q3), .val (.int q4), .val (.int q5), .val (.int (1 : Int32)), .val (.int ((XT.ushr q0 (1 : Int32)) &&& (3 : Int32))), .val (.int (own_law_j32 q0 q1 q2 q3 q4 q5)), .val (.int (own_min (2 : Int32) ((XT.ushr q0 (4 : Int32)) &&& (3 : Int32)))), .val (.ref a131), .val (.ref a134), .val (.ref a137), .val (.ref a140), .unset, .unset, .unset]) rfl (pc' := 99) rfl ?_
    refine ow_iconst (2 : Int32) C X142 at_99 (by decide) (pc' := 100) rfl ?_
    refine ow_newarr C X142 e142 (hw _ (List.mem_of_getElem? (i := 4) rfl)) at_100 (N := 2) (cap := 2) (by decide) (by decide) (Nat.le_of_ble_eq_true rfl) (Nat.le_of_ble_eq_true rfl) (Nat.le_of_ble_eq_true rfl) (Nat.le_of_ble_eq_true rfl) (pc' := 102) rfl (fun T143 h143 a143 g143 X143 e143 Ex143 A143 => ?_)
    have A143 : OwA Z h143 a143 .int 2 (fun _ => .int 0) := A143
    have lq143_a131 : a131 < a143 := Nat.lt_of_lt_of_le A142_a131.lt (Nat.le_of_eq g143.symm)
    have lq143_a134 : a134 < a143 := Nat.lt_of_lt_of_le A142_a134.lt (Nat.le_of_eq g143.symm)
    have lq143_a137 : a137 < a143 := Nat.lt_of_lt_of_le A142_a137.lt (Nat.le_of_eq g143.symm)
    have lq143_a140 : a140 < a143 := Nat.lt_of_lt_of_le A142.lt (Nat.le_of_eq g143.symm)
    have A143_a131 := A142_a131.ext Ex143
    have A143_a134 := A142_a134.ext Ex143
    have A143_a137 := A142_a137.ext Ex143
    have A143_a140 := A142.ext Ex143
    have Ge143 : n0 ≤ a143 := Nat.le_trans Z142 (Nat.le_of_eq g143.symm)
    have Z143 : n0 ≤ h143.size := Nat.le_trans Z142 Ex143.1
    have O143 := O142.ext Ex143
    refine ow_dup C X143 at_102 rfl (pc' := 103) rfl ?_
    refine ow_iconst (0 : Int32) C X143 at_103 (by decide) (pc' := 104) rfl ?_
    refine ow_iload C X143 at_104 rfl (pc' := 106) rfl ?_
    refine ow_iastore (i := 0) C X143 e143 A143 (by decide) (by decide) (Nat.le_of_ble_eq_true rfl) at_106 (pc' := 107) rfl (fun T144 h144 X144 e144 W144 => ?_)
    have A144_a131 := A143_a131.other W144 (Nat.ne_of_lt lq143_a131)
    have A144_a134 := A143_a134.other W144 (Nat.ne_of_lt lq143_a134)
    have A144_a137 := A143_a137.other W144 (Nat.ne_of_lt lq143_a137)
    have A144_a140 := A143_a140.other W144 (Nat.ne_of_lt lq143_a140)
    have A144 : OwA Z h144 a143 .int 2 (fun j => .int (if j = 0 then q5 else (0 : Int32))) := (A143.set W144).congr (fun j _ => by (try dsimp only); split <;> rfl)
    have N144 := Fr.snoc X144 N142 Ge143
    have Z144 : n0 ≤ h144.size := by rw [W144.size]; exact Z143
    have O144 := O143.wr W144 Ge143
    refine ow_dup C X144 at_107 rfl (pc' := 108) rfl ?_
    refine ow_iconst (1 : Int32) C X144 at_108 (by decide) (pc' := 109) rfl ?_
    refine ow_iload C X144 at_109 rfl (pc' := 111) rfl ?_
    refine ow_iastore (i := 1) C X144 e144 A144 (by decide) (by decide) (Nat.le_of_ble_eq_true rfl) at_111 (pc' := 112) rfl (fun T145 h145 X145 e145 W145 => ?_)
    have A145_a131 := A144_a131.other W145 (Nat.ne_of_lt lq143_a131)
    have A145_a134 := A144_a134.other W145 (Nat.ne_of_lt lq143_a134)
    have A145_a137 := A144_a137.other W145 (Nat.ne_of_lt lq143_a137)
    have A145_a140 := A144_a140.other W145 (Nat.ne_of_lt lq143_a140)
    have A145 : OwA Z h145 a143 .int 2 (fun j => .int (if j = 1 then q4 else (if j = 0 then q5 else (0 : Int32)))) := (A144.set W145).congr (fun j _ => by (try dsimp only); split <;> rfl)
    have N145 := Fr.snoc X145 N144 Ge143
    have Z145 : n0 ≤ h145.size := by rw [W145.size]; exact Z144
    have O145 := O144.wr W145 Ge143
    refine ow_astore C X145 at_112 rfl (Ls' := #[.val (.int q0), .val (.int q1), .val (.int q2), .val (.int q3), .val (.int q4), .val (.int q5), .val (.int (1 : Int32)), .val (.int ((XT.ushr q0 (1 : Int32)) &&& (3 : Int32))), .val (.int (own_law_j32 q0 q1 q2 q3 q4 q5)), .val (.int (own_min (2 : Int32) ((XT.ushr q0 (4 : Int32)) &&& (3 : Int32)))), .val (.ref a131), .val (.ref a134), .val (.ref a137), .val (.ref a140), .val (.ref a143), .unset, .unset]) rfl (pc' := 114) rfl ?_
    refine ow_iload C X145 at_114 rfl (pc' := 116) rfl ?_
    refine ow_if_ne C X145 at_116 (pcT := 166) (pc' := 119) (by decide) (by decide) rfl (fun _ => ?_) (fun bq => absurd bq (by decide))
    refine ow_new C X145 e145 (hw _ (List.mem_of_getElem? (i := 5) rfl)) (hw _ (List.mem_of_getElem? (i := 6) rfl)) (hw _ (List.mem_of_getElem? (i := 7) rfl)) at_166 (Nat.le_of_ble_eq_true rfl) (Nat.le_of_ble_eq_true rfl) (pc' := 169) rfl (fun T146 h146 a146 g146 X146 e146 Ex146 A146 D146 => ?_)
    have lq146_a131 : a131 < a146 := Nat.lt_of_lt_of_le A145_a131.lt (Nat.le_of_eq g146.symm)
    have lq146_a134 : a134 < a146 := Nat.lt_of_lt_of_le A145_a134.lt (Nat.le_of_eq g146.symm)
    have lq146_a137 : a137 < a146 := Nat.lt_of_lt_of_le A145_a137.lt (Nat.le_of_eq g146.symm)
    have lq146_a140 : a140 < a146 := Nat.lt_of_lt_of_le A145_a140.lt (Nat.le_of_eq g146.symm)
    have lq146_a143 : a143 < a146 := Nat.lt_of_lt_of_le A145.lt (Nat.le_of_eq g146.symm)
    have A146_a131 := A145_a131.ext Ex146
    have A146_a134 := A145_a134.ext Ex146
    have A146_a137 := A145_a137.ext Ex146
    have A146_a140 := A145_a140.ext Ex146
    have A146_a143 := A145.ext Ex146
    have Ge146 : n0 ≤ a146 := Nat.le_trans Z145 (Nat.le_of_eq g146.symm)
    have Z146 : n0 ≤ h146.size := Nat.le_trans Z145 Ex146.1
    have O146 := O145.ext Ex146
    have Fn146_0 : Fld Z h146 a146 "com/example/quillon/quillon/exploration/IntList" "pages" "[[I" .null := D146 (Or.inl (hw _ (List.mem_of_getElem? (i := 17) rfl))) (ty := (.array (.array .int))) (by decide)
    have Fn146_1 : Fld Z h146 a146 "com/example/quillon/quillon/exploration/IntList" "width" "I" (.int (0 : Int32)) := D146 (Or.inr (hw _ (List.mem_of_getElem? (i := 19) rfl))) (ty := .int) (by decide)
    have Fn146_2 : Fld Z h146 a146 "com/example/quillon/quillon/exploration/IntList" "recordBits" "I" (.int (0 : Int32)) := D146 (Or.inr (hw _ (List.mem_of_getElem? (i := 28) rfl))) (ty := .int) (by decide)
    have Fn146_3 : Fld Z h146 a146 "com/example/quillon/quillon/exploration/IntList" "recordMask" "I" (.int (0 : Int32)) := D146 (Or.inr (hw _ (List.mem_of_getElem? (i := 30) rfl))) (ty := .int) (by decide)
    have Fn146_4 : Fld Z h146 a146 "com/example/quillon/quillon/exploration/IntList" "size" "J" (.long (0 : Int64)) := D146 (Or.inl (hw _ (List.mem_of_getElem? (i := 37) rfl))) (ty := .long) (by decide)
    refine ow_dup C X146 at_169 rfl (pc' := 170) rfl ?_
    refine ow_iload C X146 at_170 rfl (pc' := 172) rfl ?_
    refine ow_if_eq C X146 at_172 (pcT := 179) (pc' := 175) (by decide) (by decide) rfl (fun bq => absurd bq (by decide)) (fun _ => ?_)
    refine ow_iconst (2 : Int32) C X146 at_175 (by decide) (pc' := 176) rfl ?_
    refine ow_goto C X146 at_176 (pcT := 180) (by decide) (by decide) ?_
    refine ow_callN C X146 e146 rfl (hw _ (List.mem_of_getElem? (i := 8) rfl)) (hw _ (List.mem_of_getElem? (i := 9) rfl)) (hw _ (List.mem_of_getElem? (i := 7) rfl)) (hw _ (List.mem_of_getElem? (i := 10) rfl)) (by decide) (rm_init l Z a0 hw a146 2 2 13 8191 (Or.inr ⟨rfl, rfl, rfl, rfl⟩) _ _ _ _ h146 n0 Z146 A146 Ge146 Fn146_1 Fn146_2 Fn146_3 Fn146_0 Fn146_4) pd_4 rfl (argsL := [(.int (2 : Int32))]) (rest := [(.ref a146)]) rfl rfl at_180 (Nat.le_of_ble_eq_true rfl) (Nat.le_of_ble_eq_true rfl) (Nat.le_of_ble_eq_true rfl) (Nat.le_of_ble_eq_true rfl) (pc' := 183) rfl (fun T147 v147 L147 X147 Q147 => ?_)
    obtain ⟨rfl, N147, K147, pp147, HL147⟩ := Q147
    have A147_a131 := A146_a131.keep K147 (own_nm1 (Nat.ne_of_lt lq146_a131))
    have A147_a134 := A146_a134.keep K147 (own_nm1 (Nat.ne_of_lt lq146_a134))
    have A147_a137 := A146_a137.keep K147 (own_nm1 (Nat.ne_of_lt lq146_a137))
    have A147_a140 := A146_a140.keep K147 (own_nm1 (Nat.ne_of_lt lq146_a140))
    have A147_a143 := A146_a143.keep K147 (own_nm1 (Nat.ne_of_lt lq146_a143))
    have Nn147 := Fr.app N145 N147
    have Z147 : n0 ≤ T147.heap.size := Nat.le_trans Z146 K147.1
    have O147 := O146.keep K147 (own_all1 Ge146)
    have S147 : OwS Z T147.heap n0 a146 2 13 8191 0 (fun _ => 0) := Or.inl ⟨rfl, _, HL147⟩
    have Kp147 := OwKp.refl T147.heap a146
    show OwF p e below _ T147 (mkF m 183 #[.val (.int q0), .val (.int q1), .val (.int q2), .val (.int q3), .val (.int q4), .val (.int q5), .val (.int (1 : Int32)), .val (.int ((XT.ushr q0 (1 : Int32)) &&& (3 : Int32))), .val (.int (own_law_j32 q0 q1 q2 q3 q4 q5)), .val (.int (own_min (2 : Int32) ((XT.ushr q0 (4 : Int32)) &&& (3 : Int32)))), .val (.ref a131), .val (.ref a134), .val (.ref a137), .val (.ref a140), .val (.ref a143), .unset, .unset] [(.ref a146)])
    refine ow_astore C X147 at_183 rfl (Ls' := #[.val (.int q0), .val (.int q1), .val (.int q2), .val (.int q3), .val (.int q4), .val (.int q5), .val (.int (1 : Int32)), .val (.int ((XT.ushr q0 (1 : Int32)) &&& (3 : Int32))), .val (.int (own_law_j32 q0 q1 q2 q3 q4 q5)), .val (.int (own_min (2 : Int32) ((XT.ushr q0 (4 : Int32)) &&& (3 : Int32)))), .val (.ref a131), .val (.ref a134), .val (.ref a137), .val (.ref a140), .val (.ref a143), .val (.ref a146), .unset]) rfl (pc' := 185) rfl ?_
    refine ow_iload C X147 at_185 rfl (pc' := 187) rfl ?_
    refine ow_joinH X147 (n0 := n0) (CC := 8) (SS := 16400) (P := fun h => ∃ f : Nat → Int32, OwS Z h n0 a146 2 13 8191 (own_n1 ((XT.ushr q0 (1 : Int32)) &&& (3 : Int32))) f ∧ OwKp T147.heap h a146) (f' := (mkF m 199 #[.val (.int q0), .val (.int q1), .val (.int q2), .val (.int q3), .val (.int q4), .val (.int q5), .val (.int (1 : Int32)), .val (.int ((XT.ushr q0 (1 : Int32)) &&& (3 : Int32))), .val (.int (own_law_j32 q0 q1 q2 q3 q4 q5)), .val (.int (own_min (2 : Int32) ((XT.ushr q0 (4 : Int32)) &&& (3 : Int32)))), .val (.ref a131), .val (.ref a134), .val (.ref a137), .val (.ref a140), .val (.ref a143), .val (.ref a146), .unset] [])) ?_ (fun T149 l149 X149 N149 P149 => ?_)
    · intro D149 jk149
      refine ow_if_le C X147 at_187 (pcT := 199) (pc' := 190) (by decide) (by decide) rfl (fun b187 => ?_) (fun b187 => ?_)
      · refine jk149 T147 _ (X147.more (Nat.le_of_ble_eq_true rfl) (Nat.le_of_ble_eq_true rfl)) Nn147 ?_
        exact ⟨(fun _ => 0), ((own_n1f b187).symm ▸ S147), Kp147⟩
      · refine ow_aload C X147 at_190 rfl rfl (pc' := 192) rfl ?_
        refine ow_iload C X147 at_192 rfl (pc' := 194) rfl ?_
        refine ow_aload C X147 at_194 rfl rfl (pc' := 196) rfl ?_
        refine ow_callS C X147 rfl (hw _ (List.mem_of_getElem? (i := 43) rfl)) (hw _ (List.mem_of_getElem? (i := 44) rfl)) (hw _ (List.mem_of_getElem? (i := 45) rfl)) (hw _ (List.mem_of_getElem? (i := 46) rfl)) (by decide) (rm_put2E l Z a0 hw a146 2 2 13 8191 (Or.inr ⟨rfl, rfl, rfl, rfl⟩) rfl 0 (by decide) (fun _ => 0) a131 (fun j => (if j = 1 then q2 else (if j = 0 then q1 else (0 : Int32)))) T147.heap n0 Z147 O147 SA rfl S147 A147_a131 lq146_a131) pd_10 rfl (argsL := [(.ref a146), (.int (1 : Int32)), (.ref a131)]) (rest := []) rfl rfl at_196 (Nat.le_of_ble_eq_true rfl) (Nat.le_of_ble_eq_true rfl) (Nat.le_of_ble_eq_true rfl) (Nat.le_of_ble_eq_true rfl) (pc' := 199) rfl (fun T148 v148 L148 X148 Q148 => ?_)
        obtain ⟨rfl, N148, K148, f148, S148, u148, v148⟩ := Q148
        have Nn148 := Fr.app Nn147 N148
        have Kp148 := Kp147.trans K148
        show OwF p e below _ T148 (mkF m 199 #[.val (.int q0), .val (.int q1), .val (.int q2), .val (.int q3), .val (.int q4), .val (.int q5), .val (.int (1 : Int32)), .val (.int ((XT.ushr q0 (1 : Int32)) &&& (3 : Int32))), .val (.int (own_law_j32 q0 q1 q2 q3 q4 q5)), .val (.int (own_min (2 : Int32) ((XT.ushr q0 (4 : Int32)) &&& (3 : Int32)))), .val (.ref a131), .val (.ref a134), .val (.ref a137), .val (.ref a140), .val (.ref a143), .val (.ref a146), .unset] [])
        refine jk149 T148 _ (X148.more (Nat.le_of_ble_eq_true rfl) (Nat.le_of_ble_eq_true rfl)) Nn148 ?_
        exact ⟨f148, ((own_n1t b187).symm ▸ S148), Kp148⟩
    obtain ⟨f149, S149, Kp149⟩ := P149
    refine ow_iload C X149 at_199 rfl (pc' := 201) rfl ?_
    refine ow_iconst (1 : Int32) C X149 at_201 (by decide) (pc' := 202) rfl ?_
    refine ow_joinH X149 (n0 := n0) (CC := 8) (SS := 16400) (P := fun h => ∃ f : Nat → Int32, OwS Z h n0 a146 2 13 8191 (own_n2 ((XT.ushr q0 (1 : Int32)) &&& (3 : Int32))) f ∧ OwKp T147.heap h a146) (f' := (mkF m 214 #[.val (.int q0), .val (.int q1), .val (.int q2), .val (.int q3), .val (.int q4), .val (.int q5), .val (.int (1 : Int32)), .val (.int ((XT.ushr q0 (1 : Int32)) &&& (3 : Int32))), .val (.int (own_law_j32 q0 q1 q2 q3 q4 q5)), .val (.int (own_min (2 : Int32) ((XT.ushr q0 (4 : Int32)) &&& (3 : Int32)))), .val (.ref a131), .val (.ref a134), .val (.ref a137), .val (.ref a140), .val (.ref a143), .val (.ref a146), .unset] [])) ?_ (fun T151 l151 X151 N151 P151 => ?_)
    · intro D151 jk151
      refine ow_icmp_le C X149 at_202 (pcT := 214) (pc' := 205) (by decide) (by decide) rfl (fun b202 => ?_) (fun b202 => ?_)
      · refine jk151 T149 _ (X149.more (Nat.le_of_ble_eq_true rfl) (Nat.le_of_ble_eq_true rfl)) N149 ?_
        exact ⟨f149, ((own_n2f b202).symm ▸ S149), Kp149⟩
      · refine ow_aload C X149 at_205 rfl rfl (pc' := 207) rfl ?_
        refine ow_iload C X149 at_207 rfl (pc' := 209) rfl ?_
        refine ow_aload C X149 at_209 rfl rfl (pc' := 211) rfl ?_
        rw [own_n1t (own_lt01 b202)] at S149
        refine ow_callS C X149 rfl (hw _ (List.mem_of_getElem? (i := 43) rfl)) (hw _ (List.mem_of_getElem? (i := 44) rfl)) (hw _ (List.mem_of_getElem? (i := 45) rfl)) (hw _ (List.mem_of_getElem? (i := 46) rfl)) (by decide) (rm_put2F l Z a0 hw a146 2 2 13 8191 (Or.inr ⟨rfl, rfl, rfl, rfl⟩) rfl 1 (by decide) f149 a134 (fun j => (if j = 1 then q3 else (if j = 0 then q2 else (0 : Int32)))) T149.heap n0 (Kp149.sz Z147) (Kp149.old O147 Ge146) SA (by decide) S149 (Kp149.arr A147_a134 lq146_a134) lq146_a134) pd_10 rfl (argsL := [(.ref a146), (.int (1 : Int32)), (.ref a134)]) (rest := []) rfl rfl at_211 (Nat.le_of_ble_eq_true rfl) (Nat.le_of_ble_eq_true rfl) (Nat.le_of_ble_eq_true rfl) (Nat.le_of_ble_eq_true rfl) (pc' := 214) rfl (fun T150 v150 L150 X150 Q150 => ?_)
        obtain ⟨rfl, N150, K150, f150, S150, u150, v150⟩ := Q150
        have Nn150 := Fr.app N149 N150
        have Kp150 := Kp149.trans K150
        show OwF p e below _ T150 (mkF m 214 #[.val (.int q0), .val (.int q1), .val (.int q2), .val (.int q3), .val (.int q4), .val (.int q5), .val (.int (1 : Int32)), .val (.int ((XT.ushr q0 (1 : Int32)) &&& (3 : Int32))), .val (.int (own_law_j32 q0 q1 q2 q3 q4 q5)), .val (.int (own_min (2 : Int32) ((XT.ushr q0 (4 : Int32)) &&& (3 : Int32)))), .val (.ref a131), .val (.ref a134), .val (.ref a137), .val (.ref a140), .val (.ref a143), .val (.ref a146), .unset] [])
        refine jk151 T150 _ (X150.more (Nat.le_of_ble_eq_true rfl) (Nat.le_of_ble_eq_true rfl)) Nn150 ?_
        exact ⟨f150, ((own_n2t b202).symm ▸ S150), Kp150⟩
    obtain ⟨f151, S151, Kp151⟩ := P151
    refine ow_iload C X151 at_214 rfl (pc' := 216) rfl ?_
    refine ow_iconst (2 : Int32) C X151 at_216 (by decide) (pc' := 217) rfl ?_
    refine ow_joinH X151 (n0 := n0) (CC := 8) (SS := 16400) (P := fun h => ∃ f : Nat → Int32, OwS Z h n0 a146 2 13 8191 (own_n3 ((XT.ushr q0 (1 : Int32)) &&& (3 : Int32))) f ∧ OwKp T147.heap h a146) (f' := (mkF m 229 #[.val (.int q0), .val (.int q1), .val (.int q2), .val (.int q3), .val (.int q4), .val (.int q5), .val (.int (1 : Int32)), .val (.int ((XT.ushr q0 (1 : Int32)) &&& (3 : Int32))), .val (.int (own_law_j32 q0 q1 q2 q3 q4 q5)), .val (.int (own_min (2 : Int32) ((XT.ushr q0 (4 : Int32)) &&& (3 : Int32)))), .val (.ref a131), .val (.ref a134), .val (.ref a137), .val (.ref a140), .val (.ref a143), .val (.ref a146), .unset] [])) ?_ (fun T153 l153 X153 N153 P153 => ?_)
    · intro D153 jk153
      refine ow_icmp_le C X151 at_217 (pcT := 229) (pc' := 220) (by decide) (by decide) rfl (fun b217 => ?_) (fun b217 => ?_)
      · refine jk153 T151 _ (X151.more (Nat.le_of_ble_eq_true rfl) (Nat.le_of_ble_eq_true rfl)) N151 ?_
        exact ⟨f151, ((own_n3f b217).symm ▸ S151), Kp151⟩
      · refine ow_aload C X151 at_220 rfl rfl (pc' := 222) rfl ?_
        refine ow_iload C X151 at_222 rfl (pc' := 224) rfl ?_
        refine ow_aload C X151 at_224 rfl rfl (pc' := 226) rfl ?_
        rw [own_n2t (own_lt12 b217)] at S151
        refine ow_callS C X151 rfl (hw _ (List.mem_of_getElem? (i := 43) rfl)) (hw _ (List.mem_of_getElem? (i := 44) rfl)) (hw _ (List.mem_of_getElem? (i := 45) rfl)) (hw _ (List.mem_of_getElem? (i := 46) rfl)) (by decide) (rm_put2F l Z a0 hw a146 2 2 13 8191 (Or.inr ⟨rfl, rfl, rfl, rfl⟩) rfl 2 (by decide) f151 a137 (fun j => (if j = 1 then q1 else (if j = 0 then q3 else (0 : Int32)))) T151.heap n0 (Kp151.sz Z147) (Kp151.old O147 Ge146) SA (by decide) S151 (Kp151.arr A147_a137 lq146_a137) lq146_a137) pd_10 rfl (argsL := [(.ref a146), (.int (1 : Int32)), (.ref a137)]) (rest := []) rfl rfl at_226 (Nat.le_of_ble_eq_true rfl) (Nat.le_of_ble_eq_true rfl) (Nat.le_of_ble_eq_true rfl) (Nat.le_of_ble_eq_true rfl) (pc' := 229) rfl (fun T152 v152 L152 X152 Q152 => ?_)
        obtain ⟨rfl, N152, K152, f152, S152, u152, v152⟩ := Q152
        have Nn152 := Fr.app N151 N152
        have Kp152 := Kp151.trans K152
        show OwF p e below _ T152 (mkF m 229 #[.val (.int q0), .val (.int q1), .val (.int q2), .val (.int q3), .val (.int q4), .val (.int q5), .val (.int (1 : Int32)), .val (.int ((XT.ushr q0 (1 : Int32)) &&& (3 : Int32))), .val (.int (own_law_j32 q0 q1 q2 q3 q4 q5)), .val (.int (own_min (2 : Int32) ((XT.ushr q0 (4 : Int32)) &&& (3 : Int32)))), .val (.ref a131), .val (.ref a134), .val (.ref a137), .val (.ref a140), .val (.ref a143), .val (.ref a146), .unset] [])
        refine jk153 T152 _ (X152.more (Nat.le_of_ble_eq_true rfl) (Nat.le_of_ble_eq_true rfl)) Nn152 ?_
        exact ⟨f152, ((own_n3t b217).symm ▸ S152), Kp152⟩
    obtain ⟨f153, S153, Kp153⟩ := P153
    refine ow_aload C X153 at_229 rfl rfl (pc' := 231) rfl ?_
    obtain ⟨pc155, pv155, HC155⟩ := S153.any
    refine ow_callV C X153 rfl (hw _ (List.mem_of_getElem? (i := 31) rfl)) (hw _ (List.mem_of_getElem? (i := 32) rfl)) (hw _ (List.mem_of_getElem? (i := 34) rfl)) rfl (hw _ (List.mem_of_getElem? (i := 33) rfl)) (hw _ (List.mem_of_getElem? (i := 7) rfl)) (hw _ (List.mem_of_getElem? (i := 35) rfl)) (by decide) HC155.1 (rm_clear l Z a0 hw a146 _ 2 13 8191 (own_n3 ((XT.ushr q0 (1 : Int32)) &&& (3 : Int32))) _ T153.heap n0 (Kp153.sz Z147) HC155) pd_5 rfl (argsL := []) (rest := []) rfl rfl at_231 (Nat.le_of_ble_eq_true rfl) (Nat.le_of_ble_eq_true rfl) (Nat.le_of_ble_eq_true rfl) (Nat.le_of_ble_eq_true rfl) (pc' := 234) rfl (fun T154 v154 L154 X154 Q154 => ?_)
    obtain ⟨rfl, N154, K154, pp154, HL154⟩ := Q154
    have Nn154 := Fr.app N153 N154
    have Kp154 := Kp153.trans (OwKp.of1 K154)
    have S154 : OwS Z T154.heap n0 a146 2 13 8191 0 (fun _ => 0) := Or.inl ⟨rfl, _, HL154⟩
    show OwF p e below _ T154 (mkF m 234 #[.val (.int q0), .val (.int q1), .val (.int q2), .val (.int q3), .val (.int q4), .val (.int q5), .val (.int (1 : Int32)), .val (.int ((XT.ushr q0 (1 : Int32)) &&& (3 : Int32))), .val (.int (own_law_j32 q0 q1 q2 q3 q4 q5)), .val (.int (own_min (2 : Int32) ((XT.ushr q0 (4 : Int32)) &&& (3 : Int32)))), .val (.ref a131), .val (.ref a134), .val (.ref a137), .val (.ref a140), .val (.ref a143), .val (.ref a146), .unset] [])
    refine ow_iload C X154 at_234 rfl (pc' := 236) rfl ?_
    refine ow_joinH X154 (n0 := n0) (CC := 10) (SS := 16402) (P := fun h => ∃ f : Nat → Int32, OwS Z h n0 a146 2 13 8191 0 f ∧ OwKp T147.heap h a146) (f' := (mkF m 244 #[.val (.int q0), .val (.int q1), .val (.int q2), .val (.int q3), .val (.int q4), .val (.int q5), .val (.int (1 : Int32)), .val (.int ((XT.ushr q0 (1 : Int32)) &&& (3 : Int32))), .val (.int (own_law_j32 q0 q1 q2 q3 q4 q5)), .val (.int (own_min (2 : Int32) ((XT.ushr q0 (4 : Int32)) &&& (3 : Int32)))), .val (.ref a131), .val (.ref a134), .val (.ref a137), .val (.ref a140), .val (.ref a143), .val (.ref a146), .unset] [])) ?_ (fun T158 l158 X158 N158 P158 => ?_)
    · intro D158 jk158
      refine ow_if_eq C X154 at_236 (pcT := 244) (pc' := 239) (by decide) (by decide) rfl (fun b236 => ?_) (fun b236 => ?_)
      · refine jk158 T154 _ (X154.more (Nat.le_of_ble_eq_true rfl) (Nat.le_of_ble_eq_true rfl)) Nn154 ?_
        exact ⟨(fun _ => 0), S154, Kp154⟩
      · refine ow_aload C X154 at_239 rfl rfl (pc' := 241) rfl ?_
        obtain ⟨pc157, pv157, HC157⟩ := S154.any
        refine ow_callV C X154 rfl (hw _ (List.mem_of_getElem? (i := 31) rfl)) (hw _ (List.mem_of_getElem? (i := 32) rfl)) (hw _ (List.mem_of_getElem? (i := 34) rfl)) rfl (hw _ (List.mem_of_getElem? (i := 33) rfl)) (hw _ (List.mem_of_getElem? (i := 7) rfl)) (hw _ (List.mem_of_getElem? (i := 35) rfl)) (by decide) HC157.1 (rm_clear l Z a0 hw a146 _ 2 13 8191 0 _ T154.heap n0 (Kp154.sz Z147) HC157) pd_5 rfl (argsL := []) (rest := []) rfl rfl at_241 (Nat.le_of_ble_eq_true rfl) (Nat.le_of_ble_eq_true rfl) (Nat.le_of_ble_eq_true rfl) (Nat.le_of_ble_eq_true rfl) (pc' := 244) rfl (fun T156 v156 L156 X156 Q156 => ?_)
        obtain ⟨rfl, N156, K156, pp156, HL156⟩ := Q156
        have Nn156 := Fr.app Nn154 N156
        have Kp156 := Kp154.trans (OwKp.of1 K156)
        have S156 : OwS Z T156.heap n0 a146 2 13 8191 0 (fun _ => 0) := Or.inl ⟨rfl, _, HL156⟩
        show OwF p e below _ T156 (mkF m 244 #[.val (.int q0), .val (.int q1), .val (.int q2), .val (.int q3), .val (.int q4), .val (.int q5), .val (.int (1 : Int32)), .val (.int ((XT.ushr q0 (1 : Int32)) &&& (3 : Int32))), .val (.int (own_law_j32 q0 q1 q2 q3 q4 q5)), .val (.int (own_min (2 : Int32) ((XT.ushr q0 (4 : Int32)) &&& (3 : Int32)))), .val (.ref a131), .val (.ref a134), .val (.ref a137), .val (.ref a140), .val (.ref a143), .val (.ref a146), .unset] [])
        refine jk158 T156 _ (X156.more (Nat.le_of_ble_eq_true rfl) (Nat.le_of_ble_eq_true rfl)) Nn156 ?_
        exact ⟨(fun _ => 0), S156, Kp156⟩
    obtain ⟨f158, S158, Kp158⟩ := P158
    refine ow_aload C X158 at_244 rfl rfl (pc' := 246) rfl ?_
    obtain ⟨pc160, pv160, HC160⟩ := S158.any
    refine ow_callV C X158 rfl (hw _ (List.mem_of_getElem? (i := 38) rfl)) (hw _ (List.mem_of_getElem? (i := 39) rfl)) (hw _ (List.mem_of_getElem? (i := 41) rfl)) rfl (hw _ (List.mem_of_getElem? (i := 40) rfl)) (hw _ (List.mem_of_getElem? (i := 7) rfl)) (hw _ (List.mem_of_getElem? (i := 42) rfl)) (by decide) HC160.1 (rm_size l Z a0 hw a146 _ T158.heap HC160.2.2.2.2.2.1) pd_2 rfl (argsL := []) (rest := []) rfl rfl at_246 (Nat.le_of_ble_eq_true rfl) (Nat.le_of_ble_eq_true rfl) (Nat.le_of_ble_eq_true rfl) (Nat.le_of_ble_eq_true rfl) (pc' := 249) rfl (fun T159 v159 L159 X159 Q159 => ?_)
    obtain ⟨rfl, rfl, e159⟩ := Q159
    rw [List.append_nil] at X159
    show OwF p e below _ T159 (mkF m 249 #[.val (.int q0), .val (.int q1), .val (.int q2), .val (.int q3), .val (.int q4), .val (.int q5), .val (.int (1 : Int32)), .val (.int ((XT.ushr q0 (1 : Int32)) &&& (3 : Int32))), .val (.int (own_law_j32 q0 q1 q2 q3 q4 q5)), .val (.int (own_min (2 : Int32) ((XT.ushr q0 (4 : Int32)) &&& (3 : Int32)))), .val (.ref a131), .val (.ref a134), .val (.ref a137), .val (.ref a140), .val (.ref a143), .val (.ref a146), .unset] [(.long (own_size (Int64.ofNat 0)))])
    refine ow_lconst (0 : Int64) C X159 at_249 (by decide) (pc' := 250) rfl ?_
    refine ow_lcmp C X159 at_250 (pc' := 251) rfl ?_
    refine ow_lif_ne C X159 at_251 (pcT := 258) (pc' := 254) (by decide) (by decide) rfl (fun bq => absurd rfl bq) (fun _ => ?_)
    refine ow_iconst (1 : Int32) C X159 at_254 (by decide) (pc' := 255) rfl ?_
    refine ow_goto C X159 at_255 (pcT := 259) (by decide) (by decide) ?_
    refine ow_istore C X159 at_259 (Ls' := #[.val (.int q0), .val (.int q1), .val (.int q2), .val (.int q3), .val (.int q4), .val (.int q5), .val (.int (1 : Int32)), .val (.int ((XT.ushr q0 (1 : Int32)) &&& (3 : Int32))), .val (.int (own_law_j32 q0 q1 q2 q3 q4 q5)), .val (.int (own_min (2 : Int32) ((XT.ushr q0 (4 : Int32)) &&& (3 : Int32)))), .val (.ref a131), .val (.ref a134), .val (.ref a137), .val (.ref a140), .val (.ref a143), .val (.ref a146), .val (.int (1 : Int32))]) rfl (pc' := 261) rfl ?_
    refine ow_iload C X159 at_261 rfl (pc' := 263) rfl ?_
    refine ow_joinH X159 (n0 := n0) (CC := 11) (SS := 32786) (P := fun h => ∃ f : Nat → Int32, OwS Z h n0 a146 2 13 8191 (own_n1 (own_min (2 : Int32) ((XT.ushr q0 (4 : Int32)) &&& (3 : Int32)))) f ∧ OwKp T147.heap h a146 ∧ (0 < (own_min (2 : Int32) ((XT.ushr q0 (4 : Int32)) &&& (3 : Int32))) → ∀ j, j < 2 → f (0 * 2 + j) = (fun j => (if j = 1 then q5 else (if j = 0 then q4 else (0 : Int32)))) j)) (f' := (mkF m 275 #[.val (.int q0), .val (.int q1), .val (.int q2), .val (.int q3), .val (.int q4), .val (.int q5), .val (.int (1 : Int32)), .val (.int ((XT.ushr q0 (1 : Int32)) &&& (3 : Int32))), .val (.int (own_law_j32 q0 q1 q2 q3 q4 q5)), .val (.int (own_min (2 : Int32) ((XT.ushr q0 (4 : Int32)) &&& (3 : Int32)))), .val (.ref a131), .val (.ref a134), .val (.ref a137), .val (.ref a140), .val (.ref a143), .val (.ref a146), .val (.int (1 : Int32))] [])) ?_ (fun T162 l162 X162 N162 P162 => ?_)
    · intro D162 jk162
      refine ow_if_le C X159 at_263 (pcT := 275) (pc' := 266) (by decide) (by decide) rfl (fun b263 => ?_) (fun b263 => ?_)
      · refine jk162 T159 _ (X159.more (Nat.le_of_ble_eq_true rfl) (Nat.le_of_ble_eq_true rfl)) N158 ?_
        rw [e159]
        exact ⟨f158, ((own_n1f b263).symm ▸ S158), Kp158, (fun b j hj => absurd b b263)⟩
      · refine ow_aload C X159 at_266 rfl rfl (pc' := 268) rfl ?_
        refine ow_iload C X159 at_268 rfl (pc' := 270) rfl ?_
        refine ow_aload C X159 at_270 rfl rfl (pc' := 272) rfl ?_
        refine ow_callS C X159 e159 (hw _ (List.mem_of_getElem? (i := 43) rfl)) (hw _ (List.mem_of_getElem? (i := 44) rfl)) (hw _ (List.mem_of_getElem? (i := 45) rfl)) (hw _ (List.mem_of_getElem? (i := 46) rfl)) (by decide) (rm_put2E l Z a0 hw a146 2 2 13 8191 (Or.inr ⟨rfl, rfl, rfl, rfl⟩) rfl 0 (by decide) f158 a140 (fun j => (if j = 1 then q5 else (if j = 0 then q4 else (0 : Int32)))) T158.heap n0 (Kp158.sz Z147) (Kp158.old O147 Ge146) SA rfl S158 (Kp158.arr A147_a140 lq146_a140) lq146_a140) pd_10 rfl (argsL := [(.ref a146), (.int (1 : Int32)), (.ref a140)]) (rest := []) rfl rfl at_272 (Nat.le_of_ble_eq_true rfl) (Nat.le_of_ble_eq_true rfl) (Nat.le_of_ble_eq_true rfl) (Nat.le_of_ble_eq_true rfl) (pc' := 275) rfl (fun T161 v161 L161 X161 Q161 => ?_)
        obtain ⟨rfl, N161, K161, f161, S161, u161, v161⟩ := Q161
        have Nn161 := Fr.app N158 N161
        have Kp161 := Kp158.trans K161
        show OwF p e below _ T161 (mkF m 275 #[.val (.int q0), .val (.int q1), .val (.int q2), .val (.int q3), .val (.int q4), .val (.int q5), .val (.int (1 : Int32)), .val (.int ((XT.ushr q0 (1 : Int32)) &&& (3 : Int32))), .val (.int (own_law_j32 q0 q1 q2 q3 q4 q5)), .val (.int (own_min (2 : Int32) ((XT.ushr q0 (4 : Int32)) &&& (3 : Int32)))), .val (.ref a131), .val (.ref a134), .val (.ref a137), .val (.ref a140), .val (.ref a143), .val (.ref a146), .val (.int (1 : Int32))] [])
        refine jk162 T161 _ (X161.more (Nat.le_of_ble_eq_true rfl) (Nat.le_of_ble_eq_true rfl)) Nn161 ?_
        exact ⟨f161, ((own_n1t b263).symm ▸ S161), Kp161, (fun _ j hj => v161 j hj)⟩
    obtain ⟨f162, S162, Kp162, ua162⟩ := P162
    refine ow_iload C X162 at_275 rfl (pc' := 277) rfl ?_
    refine ow_iconst (1 : Int32) C X162 at_277 (by decide) (pc' := 278) rfl ?_
    refine ow_joinH X162 (n0 := n0) (CC := 11) (SS := 32786) (P := fun h => ∃ f : Nat → Int32, OwS Z h n0 a146 2 13 8191 (own_n2 (own_min (2 : Int32) ((XT.ushr q0 (4 : Int32)) &&& (3 : Int32)))) f ∧ OwKp T147.heap h a146 ∧ (0 < (own_min (2 : Int32) ((XT.ushr q0 (4 : Int32)) &&& (3 : Int32))) → ∀ j, j < 2 → f (0 * 2 + j) = (fun j => (if j = 1 then q5 else (if j = 0 then q4 else (0 : Int32)))) j) ∧ (1 < (own_min (2 : Int32) ((XT.ushr q0 (4 : Int32)) &&& (3 : Int32))) → ∀ j, j < 2 → f (1 * 2 + j) = (fun j => (if j = 1 then q4 else (if j = 0 then q5 else (0 : Int32)))) j)) (f' := (mkF m 290 #[.val (.int q0), .val (.int q1), .val (.int q2), .val (.int q3), .val (.int q4), .val (.int q5), .val (.int (1 : Int32)), .val (.int ((XT.ushr q0 (1 : Int32)) &&& (3 : Int32))), .val (.int (own_law_j32 q0 q1 q2 q3 q4 q5)), .val (.int (own_min (2 : Int32) ((XT.ushr q0 (4 : Int32)) &&& (3 : Int32)))), .val (.ref a131), .val (.ref a134), .val (.ref a137), .val (.ref a140), .val (.ref a143), .val (.ref a146), .val (.int (1 : Int32))] [])) ?_ (fun T164 l164 X164 N164 P164 => ?_)
    · intro D164 jk164
      refine ow_icmp_le C X162 at_278 (pcT := 290) (pc' := 281) (by decide) (by decide) rfl (fun b278 => ?_) (fun b278 => ?_)
      · refine jk164 T162 _ (X162.more (Nat.le_of_ble_eq_true rfl) (Nat.le_of_ble_eq_true rfl)) N162 ?_
        exact ⟨f162, ((own_n2f b278).symm ▸ S162), Kp162, (fun b j hj => ua162 b j hj), (fun b j hj => absurd b b278)⟩
      · refine ow_aload C X162 at_281 rfl rfl (pc' := 283) rfl ?_
        refine ow_iload C X162 at_283 rfl (pc' := 285) rfl ?_
        refine ow_aload C X162 at_285 rfl rfl (pc' := 287) rfl ?_
        rw [own_n1t (own_lt01 b278)] at S162
        refine ow_callS C X162 rfl (hw _ (List.mem_of_getElem? (i := 43) rfl)) (hw _ (List.mem_of_getElem? (i := 44) rfl)) (hw _ (List.mem_of_getElem? (i := 45) rfl)) (hw _ (List.mem_of_getElem? (i := 46) rfl)) (by decide) (rm_put2F l Z a0 hw a146 2 2 13 8191 (Or.inr ⟨rfl, rfl, rfl, rfl⟩) rfl 1 (by decide) f162 a143 (fun j => (if j = 1 then q4 else (if j = 0 then q5 else (0 : Int32)))) T162.heap n0 (Kp162.sz Z147) (Kp162.old O147 Ge146) SA (by decide) S162 (Kp162.arr A147_a143 lq146_a143) lq146_a143) pd_10 rfl (argsL := [(.ref a146), (.int (1 : Int32)), (.ref a143)]) (rest := []) rfl rfl at_287 (Nat.le_of_ble_eq_true rfl) (Nat.le_of_ble_eq_true rfl) (Nat.le_of_ble_eq_true rfl) (Nat.le_of_ble_eq_true rfl) (pc' := 290) rfl (fun T163 v163 L163 X163 Q163 => ?_)
        obtain ⟨rfl, N163, K163, f163, S163, u163, v163⟩ := Q163
        have Nn163 := Fr.app N162 N163
        have Kp163 := Kp162.trans K163
        show OwF p e below _ T163 (mkF m 290 #[.val (.int q0), .val (.int q1), .val (.int q2), .val (.int q3), .val (.int q4), .val (.int q5), .val (.int (1 : Int32)), .val (.int ((XT.ushr q0 (1 : Int32)) &&& (3 : Int32))), .val (.int (own_law_j32 q0 q1 q2 q3 q4 q5)), .val (.int (own_min (2 : Int32) ((XT.ushr q0 (4 : Int32)) &&& (3 : Int32)))), .val (.ref a131), .val (.ref a134), .val (.ref a137), .val (.ref a140), .val (.ref a143), .val (.ref a146), .val (.int (1 : Int32))] [])
        refine jk164 T163 _ (X163.more (Nat.le_of_ble_eq_true rfl) (Nat.le_of_ble_eq_true rfl)) Nn163 ?_
        exact ⟨f163, ((own_n2t b278).symm ▸ S163), Kp163, (fun b j hj => (u163 _ (by omega)).trans (ua162 b j hj)), (fun _ j hj => v163 j hj)⟩
    obtain ⟨f164, S164, Kp164, ua164, ub164⟩ := P164
    refine ow_iload C X164 at_290 rfl (pc' := 292) rfl ?_
    refine ow_if_eq C X164 at_292 (pcT := 311) (pc' := 295) (by decide) (by decide) rfl (fun bq => absurd bq (by decide)) (fun _ => ?_)
    refine ow_aload C X164 at_295 rfl rfl (pc' := 297) rfl ?_
    obtain ⟨pc166, pv166, HC166⟩ := S164.any
    refine ow_callV C X164 rfl (hw _ (List.mem_of_getElem? (i := 38) rfl)) (hw _ (List.mem_of_getElem? (i := 39) rfl)) (hw _ (List.mem_of_getElem? (i := 41) rfl)) rfl (hw _ (List.mem_of_getElem? (i := 40) rfl)) (hw _ (List.mem_of_getElem? (i := 7) rfl)) (hw _ (List.mem_of_getElem? (i := 42) rfl)) (by decide) HC166.1 (rm_size l Z a0 hw a146 _ T164.heap HC166.2.2.2.2.2.1) pd_2 rfl (argsL := []) (rest := []) rfl rfl at_297 (Nat.le_of_ble_eq_true rfl) (Nat.le_of_ble_eq_true rfl) (Nat.le_of_ble_eq_true rfl) (Nat.le_of_ble_eq_true rfl) (pc' := 300) rfl (fun T165 v165 L165 X165 Q165 => ?_)
    obtain ⟨rfl, rfl, e165⟩ := Q165
    rw [List.append_nil] at X165
    show OwF p e below _ T165 (mkF m 300 #[.val (.int q0), .val (.int q1), .val (.int q2), .val (.int q3), .val (.int q4), .val (.int q5), .val (.int (1 : Int32)), .val (.int ((XT.ushr q0 (1 : Int32)) &&& (3 : Int32))), .val (.int (own_law_j32 q0 q1 q2 q3 q4 q5)), .val (.int (own_min (2 : Int32) ((XT.ushr q0 (4 : Int32)) &&& (3 : Int32)))), .val (.ref a131), .val (.ref a134), .val (.ref a137), .val (.ref a140), .val (.ref a143), .val (.ref a146), .val (.int (1 : Int32))] [(.long (own_size (Int64.ofNat (own_n2 (own_min (2 : Int32) ((XT.ushr q0 (4 : Int32)) &&& (3 : Int32)))))))])
    refine ow_iload C X165 at_300 rfl (pc' := 302) rfl ?_
    refine ow_i2l C X165 at_302 (pc' := 303) rfl ?_
    refine ow_lcmp C X165 at_303 (pc' := 304) rfl ?_
    refine ow_lif_ne C X165 at_304 (pcT := 311) (pc' := 307) (by decide) (by decide) rfl (fun bq => absurd (own_szp (own_post_rng _)) bq) (fun _ => ?_)
    refine ow_iconst (1 : Int32) C X165 at_307 (by decide) (pc' := 308) rfl ?_
    refine ow_goto C X165 at_308 (pcT := 312) (by decide) (by decide) ?_
    refine ow_istore C X165 at_312 (Ls' := #[.val (.int q0), .val (.int q1), .val (.int q2), .val (.int q3), .val (.int q4), .val (.int q5), .val (.int (1 : Int32)), .val (.int ((XT.ushr q0 (1 : Int32)) &&& (3 : Int32))), .val (.int (own_law_j32 q0 q1 q2 q3 q4 q5)), .val (.int (own_min (2 : Int32) ((XT.ushr q0 (4 : Int32)) &&& (3 : Int32)))), .val (.ref a131), .val (.ref a134), .val (.ref a137), .val (.ref a140), .val (.ref a143), .val (.ref a146), .val (.int (1 : Int32))]) rfl (pc' := 314) rfl ?_
    refine ow_iload C X165 at_314 rfl (pc' := 316) rfl ?_
    refine ow_if_le C X165 at_316 (pcT := 371) (pc' := 319) (by decide) (by decide) rfl (fun b316 => ?_) (fun b316 => ?_)
    · refine ow_iload C X165 at_371 rfl (pc' := 373) rfl ?_
      refine ow_iconst (1 : Int32) C X165 at_373 (by decide) (pc' := 374) rfl ?_
      refine ow_icmp_le C X165 at_374 (pcT := 429) (pc' := 377) (by decide) (by decide) rfl (fun _ => ?_) (fun bq => absurd bq (fun w => b316 (own_lt01 w)))
      refine ow_iload C X165 at_429 rfl (pc' := 431) rfl ?_
      exact ow_retZ C X165 at_431 (Nat.le_of_ble_eq_true rfl) (Nat.le_of_ble_eq_true rfl) (Or.inr rfl) ⟨rfl, N164⟩
    · refine ow_iload C X165 at_319 rfl (pc' := 321) rfl ?_
      refine ow_if_eq C X165 at_321 (pcT := 339) (pc' := 324) (by decide) (by decide) rfl (fun bq => absurd bq (by decide)) (fun _ => ?_)
      refine ow_aload C X165 at_324 rfl rfl (pc' := 326) rfl ?_
      refine ow_lconst (0 : Int64) C X165 at_326 (by decide) (pc' := 327) rfl ?_
      obtain ⟨pg168, qg168, HG168, AG168, gg168, ng168⟩ := own_full S164 (own_pos b316)
      refine ow_callV C X165 e165 (hw _ (List.mem_of_getElem? (i := 73) rfl)) (hw _ (List.mem_of_getElem? (i := 74) rfl)) (hw _ (List.mem_of_getElem? (i := 76) rfl)) rfl (hw _ (List.mem_of_getElem? (i := 75) rfl)) (hw _ (List.mem_of_getElem? (i := 7) rfl)) (hw _ (List.mem_of_getElem? (i := 77) rfl)) (by decide) HG168.1 (rm_get1 l Z a0 hw a146 _ 2 2 13 8191 (Or.inr ⟨rfl, rfl, rfl, rfl⟩) (own_n2 (own_min (2 : Int32) ((XT.ushr q0 (4 : Int32)) &&& (3 : Int32)))) (own_n3le _).2 T164.heap n0 (Kp164.sz Z147) (Kp164.old O147 Ge146) SA _ f164 0 (by decide) HG168 AG168 gg168 ng168) pd_3 rfl (argsL := [(.long (0 : Int64))]) (rest := []) rfl rfl at_327 (Nat.le_of_ble_eq_true rfl) (Nat.le_of_ble_eq_true rfl) (Nat.le_of_ble_eq_true rfl) (Nat.le_of_ble_eq_true rfl) (pc' := 330) rfl (fun T167 v167 L167 X167 Q167 => ?_)
      obtain ⟨rfl, rfl, e167⟩ := Q167
      rw [List.append_nil] at X167
      rw [show f164 (0 * 2 + 0) = q4 from (ua164 b316 0 (by decide)).trans rfl]
      show OwF p e below _ T167 (mkF m 330 #[.val (.int q0), .val (.int q1), .val (.int q2), .val (.int q3), .val (.int q4), .val (.int q5), .val (.int (1 : Int32)), .val (.int ((XT.ushr q0 (1 : Int32)) &&& (3 : Int32))), .val (.int (own_law_j32 q0 q1 q2 q3 q4 q5)), .val (.int (own_min (2 : Int32) ((XT.ushr q0 (4 : Int32)) &&& (3 : Int32)))), .val (.ref a131), .val (.ref a134), .val (.ref a137), .val (.ref a140), .val (.ref a143), .val (.ref a146), .val (.int (1 : Int32))] [(.int q4)])
      refine ow_iload C X167 at_330 rfl (pc' := 332) rfl ?_
      refine ow_icmp_ne C X167 at_332 (pcT := 339) (pc' := 335) (by decide) (by decide) rfl (fun bq => absurd rfl bq) (fun _ => ?_)
      refine ow_iconst (1 : Int32) C X167 at_335 (by decide) (pc' := 336) rfl ?_
      refine ow_goto C X167 at_336 (pcT := 340) (by decide) (by decide) ?_
      refine ow_istore C X167 at_340 (Ls' := #[.val (.int q0), .val (.int q1), .val (.int q2), .val (.int q3), .val (.int q4), .val (.int q5), .val (.int (1 : Int32)), .val (.int ((XT.ushr q0 (1 : Int32)) &&& (3 : Int32))), .val (.int (own_law_j32 q0 q1 q2 q3 q4 q5)), .val (.int (own_min (2 : Int32) ((XT.ushr q0 (4 : Int32)) &&& (3 : Int32)))), .val (.ref a131), .val (.ref a134), .val (.ref a137), .val (.ref a140), .val (.ref a143), .val (.ref a146), .val (.int (1 : Int32))]) rfl (pc' := 342) rfl ?_
      refine ow_iload C X167 at_342 rfl (pc' := 344) rfl ?_
      refine ow_if_eq C X167 at_344 (pcT := 371) (pc' := 347) (by decide) (by decide) rfl (fun bq => absurd bq (by decide)) (fun _ => ?_)
      refine ow_iload C X167 at_347 rfl (pc' := 349) rfl ?_
      refine ow_if_eq C X167 at_349 (pcT := 368) (pc' := 352) (by decide) (by decide) rfl (fun bq => absurd bq (by decide)) (fun _ => ?_)
      refine ow_aload C X167 at_352 rfl rfl (pc' := 354) rfl ?_
      refine ow_lconst (0 : Int64) C X167 at_354 (by decide) (pc' := 355) rfl ?_
      refine ow_iconst (1 : Int32) C X167 at_355 (by decide) (pc' := 356) rfl ?_
      obtain ⟨pg170, qg170, HG170, AG170, gg170, ng170⟩ := own_full S164 (own_pos b316)
      refine ow_callV C X167 e167 (hw _ (List.mem_of_getElem? (i := 87) rfl)) (hw _ (List.mem_of_getElem? (i := 79) rfl)) (hw _ (List.mem_of_getElem? (i := 81) rfl)) rfl (hw _ (List.mem_of_getElem? (i := 80) rfl)) (hw _ (List.mem_of_getElem? (i := 7) rfl)) (hw _ (List.mem_of_getElem? (i := 82) rfl)) (by decide) HG170.1 (rm_get2 l Z a0 hw a146 _ 2 2 13 8191 (Or.inr ⟨rfl, rfl, rfl, rfl⟩) (own_n2 (own_min (2 : Int32) ((XT.ushr q0 (4 : Int32)) &&& (3 : Int32)))) (own_n3le _).2 T164.heap n0 (Kp164.sz Z147) (Kp164.old O147 Ge146) SA _ f164 0 (by decide) 1 (by decide) HG170 AG170 gg170 ng170) pd_9 rfl (argsL := [(.long (0 : Int64)), (.int (1 : Int32))]) (rest := []) rfl rfl at_356 (Nat.le_of_ble_eq_true rfl) (Nat.le_of_ble_eq_true rfl) (Nat.le_of_ble_eq_true rfl) (Nat.le_of_ble_eq_true rfl) (pc' := 359) rfl (fun T169 v169 L169 X169 Q169 => ?_)
      obtain ⟨rfl, rfl, e169⟩ := Q169
      rw [List.append_nil] at X169
      rw [show f164 (0 * 2 + 1) = q5 from (ua164 b316 1 (by decide)).trans rfl]
      show OwF p e below _ T169 (mkF m 359 #[.val (.int q0), .val (.int q1), .val (.int q2), .val (.int q3), .val (.int q4), .val (.int q5), .val (.int (1 : Int32)), .val (.int ((XT.ushr q0 (1 : Int32)) &&& (3 : Int32))), .val (.int (own_law_j32 q0 q1 q2 q3 q4 q5)), .val (.int (own_min (2 : Int32) ((XT.ushr q0 (4 : Int32)) &&& (3 : Int32)))), .val (.ref a131), .val (.ref a134), .val (.ref a137), .val (.ref a140), .val (.ref a143), .val (.ref a146), .val (.int (1 : Int32))] [(.int q5)])
      refine ow_iload C X169 at_359 rfl (pc' := 361) rfl ?_
      refine ow_icmp_ne C X169 at_361 (pcT := 368) (pc' := 364) (by decide) (by decide) rfl (fun bq => absurd rfl bq) (fun _ => ?_)
      refine ow_iconst (1 : Int32) C X169 at_364 (by decide) (pc' := 365) rfl ?_
      refine ow_goto C X169 at_365 (pcT := 369) (by decide) (by decide) ?_
      refine ow_istore C X169 at_369 (Ls' := #[.val (.int q0), .val (.int q1), .val (.int q2), .val (.int q3), .val (.int q4), .val (.int q5), .val (.int (1 : Int32)), .val (.int ((XT.ushr q0 (1 : Int32)) &&& (3 : Int32))), .val (.int (own_law_j32 q0 q1 q2 q3 q4 q5)), .val (.int (own_min (2 : Int32) ((XT.ushr q0 (4 : Int32)) &&& (3 : Int32)))), .val (.ref a131), .val (.ref a134), .val (.ref a137), .val (.ref a140), .val (.ref a143), .val (.ref a146), .val (.int (1 : Int32))]) rfl (pc' := 371) rfl ?_
      refine ow_iload C X169 at_371 rfl (pc' := 373) rfl ?_
      refine ow_iconst (1 : Int32) C X169 at_373 (by decide) (pc' := 374) rfl ?_
      refine ow_icmp_le C X169 at_374 (pcT := 429) (pc' := 377) (by decide) (by decide) rfl (fun b374 => ?_) (fun b374 => ?_)
      · refine ow_iload C X169 at_429 rfl (pc' := 431) rfl ?_
        exact ow_retZ C X169 at_431 (Nat.le_of_ble_eq_true rfl) (Nat.le_of_ble_eq_true rfl) (Or.inr rfl) ⟨rfl, N164⟩
      · refine ow_iload C X169 at_377 rfl (pc' := 379) rfl ?_
        refine ow_if_eq C X169 at_379 (pcT := 397) (pc' := 382) (by decide) (by decide) rfl (fun bq => absurd bq (by decide)) (fun _ => ?_)
        refine ow_aload C X169 at_382 rfl rfl (pc' := 384) rfl ?_
        refine ow_lconst (1 : Int64) C X169 at_384 (by decide) (pc' := 385) rfl ?_
        obtain ⟨pg172, qg172, HG172, AG172, gg172, ng172⟩ := own_full S164 (own_pos b316)
        refine ow_callV C X169 e169 (hw _ (List.mem_of_getElem? (i := 73) rfl)) (hw _ (List.mem_of_getElem? (i := 74) rfl)) (hw _ (List.mem_of_getElem? (i := 76) rfl)) rfl (hw _ (List.mem_of_getElem? (i := 75) rfl)) (hw _ (List.mem_of_getElem? (i := 7) rfl)) (hw _ (List.mem_of_getElem? (i := 77) rfl)) (by decide) HG172.1 (rm_get1 l Z a0 hw a146 _ 2 2 13 8191 (Or.inr ⟨rfl, rfl, rfl, rfl⟩) (own_n2 (own_min (2 : Int32) ((XT.ushr q0 (4 : Int32)) &&& (3 : Int32)))) (own_n3le _).2 T164.heap n0 (Kp164.sz Z147) (Kp164.old O147 Ge146) SA _ f164 1 (by decide) HG172 AG172 gg172 ng172) pd_3 rfl (argsL := [(.long (1 : Int64))]) (rest := []) rfl rfl at_385 (Nat.le_of_ble_eq_true rfl) (Nat.le_of_ble_eq_true rfl) (Nat.le_of_ble_eq_true rfl) (Nat.le_of_ble_eq_true rfl) (pc' := 388) rfl (fun T171 v171 L171 X171 Q171 => ?_)
        obtain ⟨rfl, rfl, e171⟩ := Q171
        rw [List.append_nil] at X171
        rw [show f164 (1 * 2 + 0) = q5 from (ub164 b374 0 (by decide)).trans rfl]
        show OwF p e below _ T171 (mkF m 388 #[.val (.int q0), .val (.int q1), .val (.int q2), .val (.int q3), .val (.int q4), .val (.int q5), .val (.int (1 : Int32)), .val (.int ((XT.ushr q0 (1 : Int32)) &&& (3 : Int32))), .val (.int (own_law_j32 q0 q1 q2 q3 q4 q5)), .val (.int (own_min (2 : Int32) ((XT.ushr q0 (4 : Int32)) &&& (3 : Int32)))), .val (.ref a131), .val (.ref a134), .val (.ref a137), .val (.ref a140), .val (.ref a143), .val (.ref a146), .val (.int (1 : Int32))] [(.int q5)])
        refine ow_iload C X171 at_388 rfl (pc' := 390) rfl ?_
        refine ow_icmp_ne C X171 at_390 (pcT := 397) (pc' := 393) (by decide) (by decide) rfl (fun bq => absurd rfl bq) (fun _ => ?_)
        refine ow_iconst (1 : Int32) C X171 at_393 (by decide) (pc' := 394) rfl ?_
        refine ow_goto C X171 at_394 (pcT := 398) (by decide) (by decide) ?_
        refine ow_istore C X171 at_398 (Ls' := #[.val (.int q0), .val (.int q1), .val (.int q2), .val (.int q3), .val (.int q4), .val (.int q5), .val (.int (1 : Int32)), .val (.int ((XT.ushr q0 (1 : Int32)) &&& (3 : Int32))), .val (.int (own_law_j32 q0 q1 q2 q3 q4 q5)), .val (.int (own_min (2 : Int32) ((XT.ushr q0 (4 : Int32)) &&& (3 : Int32)))), .val (.ref a131), .val (.ref a134), .val (.ref a137), .val (.ref a140), .val (.ref a143), .val (.ref a146), .val (.int (1 : Int32))]) rfl (pc' := 400) rfl ?_
        refine ow_iload C X171 at_400 rfl (pc' := 402) rfl ?_
        refine ow_if_eq C X171 at_402 (pcT := 429) (pc' := 405) (by decide) (by decide) rfl (fun bq => absurd bq (by decide)) (fun _ => ?_)
        refine ow_iload C X171 at_405 rfl (pc' := 407) rfl ?_
        refine ow_if_eq C X171 at_407 (pcT := 426) (pc' := 410) (by decide) (by decide) rfl (fun bq => absurd bq (by decide)) (fun _ => ?_)
        refine ow_aload C X171 at_410 rfl rfl (pc' := 412) rfl ?_
        refine ow_lconst (1 : Int64) C X171 at_412 (by decide) (pc' := 413) rfl ?_
        refine ow_iconst (1 : Int32) C X171 at_413 (by decide) (pc' := 414) rfl ?_
        obtain ⟨pg174, qg174, HG174, AG174, gg174, ng174⟩ := own_full S164 (own_pos b316)
        refine ow_callV C X171 e171 (hw _ (List.mem_of_getElem? (i := 87) rfl)) (hw _ (List.mem_of_getElem? (i := 79) rfl)) (hw _ (List.mem_of_getElem? (i := 81) rfl)) rfl (hw _ (List.mem_of_getElem? (i := 80) rfl)) (hw _ (List.mem_of_getElem? (i := 7) rfl)) (hw _ (List.mem_of_getElem? (i := 82) rfl)) (by decide) HG174.1 (rm_get2 l Z a0 hw a146 _ 2 2 13 8191 (Or.inr ⟨rfl, rfl, rfl, rfl⟩) (own_n2 (own_min (2 : Int32) ((XT.ushr q0 (4 : Int32)) &&& (3 : Int32)))) (own_n3le _).2 T164.heap n0 (Kp164.sz Z147) (Kp164.old O147 Ge146) SA _ f164 1 (by decide) 1 (by decide) HG174 AG174 gg174 ng174) pd_9 rfl (argsL := [(.long (1 : Int64)), (.int (1 : Int32))]) (rest := []) rfl rfl at_414 (Nat.le_of_ble_eq_true rfl) (Nat.le_of_ble_eq_true rfl) (Nat.le_of_ble_eq_true rfl) (Nat.le_of_ble_eq_true rfl) (pc' := 417) rfl (fun T173 v173 L173 X173 Q173 => ?_)
        obtain ⟨rfl, rfl, e173⟩ := Q173
        rw [List.append_nil] at X173
        rw [show f164 (1 * 2 + 1) = q4 from (ub164 b374 1 (by decide)).trans rfl]
        show OwF p e below _ T173 (mkF m 417 #[.val (.int q0), .val (.int q1), .val (.int q2), .val (.int q3), .val (.int q4), .val (.int q5), .val (.int (1 : Int32)), .val (.int ((XT.ushr q0 (1 : Int32)) &&& (3 : Int32))), .val (.int (own_law_j32 q0 q1 q2 q3 q4 q5)), .val (.int (own_min (2 : Int32) ((XT.ushr q0 (4 : Int32)) &&& (3 : Int32)))), .val (.ref a131), .val (.ref a134), .val (.ref a137), .val (.ref a140), .val (.ref a143), .val (.ref a146), .val (.int (1 : Int32))] [(.int q4)])
        refine ow_iload C X173 at_417 rfl (pc' := 419) rfl ?_
        refine ow_icmp_ne C X173 at_419 (pcT := 426) (pc' := 422) (by decide) (by decide) rfl (fun bq => absurd rfl bq) (fun _ => ?_)
        refine ow_iconst (1 : Int32) C X173 at_422 (by decide) (pc' := 423) rfl ?_
        refine ow_goto C X173 at_423 (pcT := 427) (by decide) (by decide) ?_
        refine ow_istore C X173 at_427 (Ls' := #[.val (.int q0), .val (.int q1), .val (.int q2), .val (.int q3), .val (.int q4), .val (.int q5), .val (.int (1 : Int32)), .val (.int ((XT.ushr q0 (1 : Int32)) &&& (3 : Int32))), .val (.int (own_law_j32 q0 q1 q2 q3 q4 q5)), .val (.int (own_min (2 : Int32) ((XT.ushr q0 (4 : Int32)) &&& (3 : Int32)))), .val (.ref a131), .val (.ref a134), .val (.ref a137), .val (.ref a140), .val (.ref a143), .val (.ref a146), .val (.int (1 : Int32))]) rfl (pc' := 429) rfl ?_
        refine ow_iload C X173 at_429 rfl (pc' := 431) rfl ?_
        exact ow_retZ C X173 at_431 (Nat.le_of_ble_eq_true rfl) (Nat.le_of_ble_eq_true rfl) (Or.inr rfl) ⟨rfl, N164⟩
set_option maxRecDepth 65536 in
set_option maxHeartbeats 40000000 in
theorem comes_1 {Post : Tables → Env → Array Value → State → Outcome → State → Prop} (hpost : ∀ tb e args s v u, (limb_1_1.after args s (.returned v) u = true ∧ limb_1_2.after args s (.returned v) u = true ∧ True) → FrameEnd s (.returned v) u (Jvm.fieldLocs frame_1_writes args s ++ Jvm.arrayLocs frame_1_arrays args s ++ Jvm.staticLocs frame_1_statics s) 40 65664 → Post tb e args s (.returned v) u) :
    ArmFor flags0 classFile x code maxLocals ret World_1 tables_1 room_1 Calls_1 rest_1 Pre_1 Post := by
  intro l hfl _ _ p e ha hc hk s m args below hf hA hF happ hP
  obtain ⟨hcalls, hrest, hpre⟩ := hP
  obtain ⟨-, -, -, hnamed, -, -, -, hat⟩ := (Spec.applies_iff hf).mp happ
  obtain ⟨hg, hn⟩ := and_e (Cond.before_iff.mp (show (Jvm.Cond.and given_1 narrow_1).before args s = true from hpre))
  obtain ⟨h1, hg0⟩ := and_e hg
  obtain ⟨ha0, hg1⟩ := and_e hg0
  obtain ⟨ha1, hg2⟩ := and_e hg1
  obtain ⟨ha2, hg3⟩ := and_e hg2
  obtain ⟨ha3, hg4⟩ := and_e hg3
  obtain ⟨ha4, hg5⟩ := and_e hg4
  obtain ⟨w0, w1, w2, w3, w4, w5, rfl⟩ : ∃ w0 w1 w2 w3 w4 w5 : Value, args = #[w0, w1, w2, w3, w4, w5] := by
    have hs : args.size = 6 := by simpa [Cond.value, given_1] using h1
    obtain ⟨L⟩ := args
    match L, hs with
    | [w0, w1, w2, w3, w4, w5], _ => exact ⟨w0, w1, w2, w3, w4, w5, rfl⟩
  have hw := fun d (hd : d ∈ tables_1) => atoms_spec (ws := Jvm.Cond.code x code maxLocals ret :: tables_1) hat d (List.mem_cons_of_mem _ hd)
  obtain ⟨q0, ev0⟩ := is_v ha0
  obtain rfl : w0 = (.int q0) := Option.some.inj ev0
  obtain ⟨q1, ev1⟩ := is_v ha1
  obtain rfl : w1 = (.int q1) := Option.some.inj ev1
  obtain ⟨q2, ev2⟩ := is_v ha2
  obtain rfl : w2 = (.int q2) := Option.some.inj ev2
  obtain ⟨q3, ev3⟩ := is_v ha3
  obtain rfl : w3 = (.int q3) := Option.some.inj ev3
  obtain ⟨q4, ev4⟩ := is_v ha4
  obtain rfl : w4 = (.int q4) := Option.some.inj ev4
  obtain ⟨q5, ev5⟩ := is_v hg5
  obtain rfl : w5 = (.int q5) := Option.some.inj ev5
  obtain ⟨x_, evx⟩ : ∃ x_, (Term.static "com/example/quillon/quillon/exploration/IntList" "$assertionsDisabled" "Z").eval _ s none [] s = some (.int x_) ∧ x_ = 1 := ⟨1, eqv_i (Term.int_eval (1)) hn, rfl⟩
  obtain ⟨evx, rfl⟩ := evx
  have SA : Sta s s.heap "com/example/quillon/quillon/exploration/IntList" "$assertionsDisabled" "Z" (.int 1) := Sta.start evx (Or.inr ⟨(hw _ (List.mem_of_getElem? (i := 7) rfl)), (hw _ (List.mem_of_getElem? (i := 53) rfl))⟩)
  obtain ⟨n, o, h1, h2, h3, _, L, rfl, ⟨rfl, N⟩, hq⟩ := rm_law l s _ hw q0 q1 q2 q3 q4 q5 s.heap s.heap.size (Nat.le_refl _) SA (Old.start s) tables_1 p e ha hc hk s m _ below hf ((Spec.applies_iff_loose hf).mp happ).1 ⟨rfl, State.Warmed39.refl s, rfl⟩ trivial
  refine ⟨n, _, h1, h2, h3, hpost _ _ _ _ _ _ ⟨Cond.after_iff.mpr rfl, Cond.after_iff.mpr (eq_i res_at (Term.int_eval (1)) rfl), trivial⟩ ⟨hq.1, hq.2.1, (hq.2.2.sift fun y hy => Or.inr (N y hy)).mono (by decide) (by decide)⟩⟩
theorem main_1_1 : Claimed_1_1 := comes_1 fun _ _ _ _ _ _ h hF => ⟨h.1, hF⟩
theorem main_1_2 : Claimed_1_2 := comes_1 fun _ _ _ _ _ _ h hF => ⟨h.2.1, hF⟩
end Jvm.Pilot.@@N@@
namespace Jvm.Pilot.@@N@@
open Jvm Jvm.ClassFile Sem Op Lib Jvm.Free Jvm.Stand Jvm.Pilot.@@N@@.Jvm.D
/-! MADE BY PROGRAM (witnessworld.py) out of the Statement's table words and the real class files: 16 classes; the members and pool entries that the words name. The judged class is class 1, her method 2. -/
namespace start1
open Jvm.ClassFile
def u (s : String) : CpInfo := .utf8 (stringToUtf16 s)
/-- a pool by its gaps: so many unusable entries, then the entry; so many at the end -/
def gap : Nat → List CpInfo → List CpInfo
  | 0, r => r
  | n + 1, r => .unusable :: gap n r
def poolList (es : List (Nat × CpInfo)) (last : Nat) : List CpInfo := es.foldr (fun e r => gap e.1 (e.2 :: r)) (gap last [])
def pool (es : List (Nat × CpInfo)) (last : Nat) : Array CpInfo := ⟨poolList es last⟩
def fileOf (pool : Array CpInfo) (this : Nat) (attrs : Array Attribute := #[]) (ms : Array MethodInfo := #[]) (fl : Nat := 33) (sup : Nat := 0) (ifs : Array Nat := #[]) (fds : Array FieldInfo := #[]) : ClassFile where
  minorVersion := 0
  majorVersion := 65
  constantPool := pool
  accessFlags := fl
  thisClass := this
  superClass := sup
  interfaces := ifs
  fields := fds
  methods := ms
  attributes := attrs
def plain (name : String) (sup : Option ClassId) : Class where
  name := name
  kind := .ordinary
  loader := none
  accessFlags := 33
  super := sup
  interfaces := #[]
  cf := none
  fields := #[]
  methods := #[]
  instanceTypes := #[]
  staticTypes := #[]
  resolved := #[]
  callSites := []
  init := .initialized
  statics := none
  mirror := none

def pool0 : Array CpInfo := pool [(5, u "<init>"), (0, u "()V"), (1, .class_ 10), (1, u "java/lang/Object")] 113

def k0c0 : Code := { maxStack := 0, maxLocals := 1, code := object_method_1_code, exceptionTable := #[], attributes := #[] }
def k0m0 : Method := { name := "<init>", desc := "()V", sig := { parameters := [], returnType := none }, accessFlags := 1, code := some k0c0 }
/-- java/lang/Object -/
def k0 : Class := { plain "java/lang/Object" none with
  accessFlags := 33
  interfaces := #[]
  cf := some (fileOf pool0 8 #[] #[{ accessFlags := 1, nameIndex := 5, descriptorIndex := 6, attributes := #[] }] 33 0 #[] #[])
  fields := #[]
  methods := #[k0m0]
  instanceTypes := #[]
  staticTypes := #[]
  resolved := Array.replicate 124 none
  statics := none }

def pool1 : Array CpInfo := pool [(2, .class_ 4), (1, u "java/lang/Object"), (0, u "<init>"), (0, u "()V"), (0, .methodref 8 9), (0, .class_ 10), (0, .nameAndType 11 12), (0, u "com/example/quillon/quillon/exploration/IntList"), (0, u "add"), (0, u "([I)V"), (0, .methodref 8 14), (0, .nameAndType 11 15), (0, u "(I)V"), (0, .methodref 17 18), (0, .class_ 19), (0, .nameAndType 20 21), (0, u "java/lang/Math"), (0, u "min"), (0, u "(II)I"), (0, .methodref 8 23), (0, .nameAndType 5 15), (0, .methodref 25 26), (0, .class_ 27), (0, .nameAndType 28 29), (0, u "com/example/quillon/quillon/exploration/IntListClearPinLaw"), (0, u "put"), (0, u "(Lcom/example/quillon/quillon/exploration/IntList;Z[I)V"), (0, .methodref 8 31), (0, .nameAndType 32 6), (0, u "clear"), (0, .methodref 8 34), (0, .nameAndType 35 36), (0, u "size"), (0, u "()J"), (0, .methodref 8 38), (0, .nameAndType 39 40), (0, u "get"), (0, u "(J)I"), (0, .methodref 8 42), (0, .nameAndType 39 43), (0, u "(JI)I"), (3, u "law"), (0, u "(IIIIII)Z")] 4

def k1m0 : Method := { name := "<init>", desc := "()V", sig := { parameters := [], returnType := none }, accessFlags := 1, code := none }
def k1c1 : Code := { maxStack := 3, maxLocals := 3, code := method_2_code, exceptionTable := #[], attributes := #[] }
def k1m1 : Method := { name := "put", desc := "(Lcom/example/quillon/quillon/exploration/IntList;Z[I)V", sig := { parameters := [(.object "com/example/quillon/quillon/exploration/IntList"), .boolean, (.array .int)], returnType := none }, accessFlags := 10, code := some k1c1 }
def k1c2 : Code := { maxStack := 4, maxLocals := 17, code := code, exceptionTable := #[], attributes := #[] }
def k1m2 : Method := { name := "law", desc := "(IIIIII)Z", sig := { parameters := [.int, .int, .int, .int, .int, .int], returnType := some .boolean }, accessFlags := 9, code := some k1c2 }
/-- com/example/quillon/quillon/exploration/IntListClearPinLaw -/
def k1 : Class := { plain "com/example/quillon/quillon/exploration/IntListClearPinLaw" (some 0) with
  accessFlags := 49
  interfaces := #[]
  cf := some (fileOf pool1 25 #[] #[{ accessFlags := 1, nameIndex := 5, descriptorIndex := 6, attributes := #[] }, { accessFlags := 10, nameIndex := 28, descriptorIndex := 29, attributes := #[] }, { accessFlags := 9, nameIndex := 47, descriptorIndex := 48, attributes := #[] }] 49 2 #[] #[])
  fields := #[]
  methods := #[k1m0, k1m1, k1m2]
  instanceTypes := #[]
  staticTypes := #[]
  resolved := Array.replicate 53 none
  statics := none }

def pool2 : Array CpInfo := pool [(1, .class_ 2), (0, u "java/lang/Math"), (1, .class_ 6), (1, u "java/lang/Object"), (0, u "<init>"), (0, u "()V"), (89, .class_ 100), (1, u "java/lang/Math$RandomNumberGeneratorHolder"), (71, u "negativeZeroFloatBits"), (0, u "J"), (2, u "negativeZeroDoubleBits"), (21, u "max"), (2, u "min"), (43, u "$assertionsDisabled"), (0, u "Z"), (88, u "(II)I"), (2, u "twoToTheDoubleScaleDown"), (0, u "D"), (4, u "twoToTheDoubleScaleUp"), (9, u "E"), (3, u "PI"), (2, u "TAU"), (2, u "DEGREES_TO_RADIANS"), (0, u "RADIANS_TO_DEGREES")] 94

def k2m0 : Method := { name := "<init>", desc := "()V", sig := { parameters := [], returnType := none }, accessFlags := 2, code := none }
def k2c1 : Code := { maxStack := 2, maxLocals := 2, code := jdk_29_method_65_code, exceptionTable := #[], attributes := #[] }
def k2m1 : Method := { name := "max", desc := "(II)I", sig := { parameters := [.int, .int], returnType := some .int }, accessFlags := 9, code := some k2c1 }
def k2c2 : Code := { maxStack := 2, maxLocals := 2, code := jdk_29_method_69_code, exceptionTable := #[], attributes := #[] }
def k2m2 : Method := { name := "min", desc := "(II)I", sig := { parameters := [.int, .int], returnType := some .int }, accessFlags := 9, code := some k2c2 }
/-- java/lang/Math -/
def k2 : Class := { plain "java/lang/Math" (some 0) with
  accessFlags := 49
  interfaces := #[]
  cf := some (fileOf pool2 1 #[.nestMembers #[98]] #[{ accessFlags := 2, nameIndex := 7, descriptorIndex := 8, attributes := #[] }, { accessFlags := 9, nameIndex := 198, descriptorIndex := 335, attributes := #[] }, { accessFlags := 9, nameIndex := 201, descriptorIndex := 335, attributes := #[] }] 49 4 #[] #[{ accessFlags := 25, nameIndex := 354, descriptorIndex := 339, attributes := #[] }, { accessFlags := 25, nameIndex := 358, descriptorIndex := 339, attributes := #[] }, { accessFlags := 25, nameIndex := 361, descriptorIndex := 339, attributes := #[] }, { accessFlags := 26, nameIndex := 364, descriptorIndex := 339, attributes := #[] }, { accessFlags := 26, nameIndex := 365, descriptorIndex := 339, attributes := #[] }, { accessFlags := 26, nameIndex := 172, descriptorIndex := 173, attributes := #[] }, { accessFlags := 26, nameIndex := 176, descriptorIndex := 173, attributes := #[] }, { accessFlags := 8, nameIndex := 344, descriptorIndex := 339, attributes := #[] }, { accessFlags := 8, nameIndex := 338, descriptorIndex := 339, attributes := #[] }, { accessFlags := 4120, nameIndex := 245, descriptorIndex := 246, attributes := #[] }])
  fields := #[{ name := "E", type := .double, accessFlags := 25, slot := 0, constantValue := 0 }, { name := "PI", type := .double, accessFlags := 25, slot := 1, constantValue := 0 }, { name := "TAU", type := .double, accessFlags := 25, slot := 2, constantValue := 0 }, { name := "DEGREES_TO_RADIANS", type := .double, accessFlags := 26, slot := 3, constantValue := 0 }, { name := "RADIANS_TO_DEGREES", type := .double, accessFlags := 26, slot := 4, constantValue := 0 }, { name := "negativeZeroFloatBits", type := .long, accessFlags := 26, slot := 5, constantValue := 0 }, { name := "negativeZeroDoubleBits", type := .long, accessFlags := 26, slot := 6, constantValue := 0 }, { name := "twoToTheDoubleScaleUp", type := .double, accessFlags := 8, slot := 7, constantValue := 0 }, { name := "twoToTheDoubleScaleDown", type := .double, accessFlags := 8, slot := 8, constantValue := 0 }, { name := "$assertionsDisabled", type := .boolean, accessFlags := 4120, slot := 9, constantValue := 0 }]
  methods := #[k2m0, k2m1, k2m2]
  instanceTypes := #[]
  staticTypes := #[.double, .double, .double, .double, .double, .long, .long, .double, .double, .boolean]
  resolved := Array.replicate 460 none
  statics := none }

def pool3 : Array CpInfo := pool [(2, .class_ 4), (1, u "com/example/quillon/quillon/exploration/IntList"), (0, u "<init>"), (0, u "(I)V"), (0, .methodref 8 9), (0, .class_ 10), (0, .nameAndType 5 11), (0, u "java/lang/Object"), (0, u "()V"), (0, .class_ 13), (0, u "[I"), (0, .fieldref 2 15), (0, .nameAndType 16 17), (0, u "pages"), (0, u "[[I"), (9, .fieldref 2 28), (0, .nameAndType 29 30), (0, u "width"), (0, u "I"), (0, .methodref 32 33), (0, .class_ 34), (0, .nameAndType 35 36), (0, u "java/lang/Integer"), (0, u "numberOfLeadingZeros"), (0, u "(I)I"), (0, .methodref 38 39), (0, .class_ 40), (0, .nameAndType 41 42), (0, u "java/lang/Math"), (0, u "max"), (0, u "(II)I"), (0, .fieldref 2 44), (0, .nameAndType 45 30), (0, u "recordBits"), (0, .fieldref 2 47), (0, .nameAndType 48 30), (0, u "recordMask"), (0, .fieldref 2 50), (0, .nameAndType 51 52), (0, u "size"), (0, u "J"), (0, .fieldref 2 54), (0, .nameAndType 55 56), (0, u "$assertionsDisabled"), (0, u "Z"), (3, .methodref 2 61), (0, .nameAndType 62 63), (0, u "page"), (0, u "(J)[I"), (0, .methodref 2 65), (0, .nameAndType 66 67), (0, u "offset"), (0, u "(J)I"), (0, .methodref 69 70), (0, .class_ 71), (0, .nameAndType 72 73), (0, u "java/lang/System"), (0, u "arraycopy"), (0, u "(Ljava/lang/Object;ILjava/lang/Object;II)V"), (0, .methodref 2 75), (0, .nameAndType 76 77), (0, u "get"), (0, u "(JI)I"), (0, .methodref 2 79), (0, .nameAndType 80 81), (0, u "checkIndex"), (0, u "(J)V"), (23, u "PAGE_BITS"), (5, u "()J"), (0, u "add"), (0, u "([I)V"), (6, u "clear")] 20

def k3m0 : Method := { name := "<init>", desc := "()V", sig := { parameters := [], returnType := none }, accessFlags := 0, code := none }
def k3c1 : Code := { maxStack := 6, maxLocals := 2, code := prog_38_method_2_code, exceptionTable := #[], attributes := #[] }
def k3m1 : Method := { name := "<init>", desc := "(I)V", sig := { parameters := [.int], returnType := none }, accessFlags := 0, code := some k3c1 }
def k3c2 : Code := { maxStack := 2, maxLocals := 1, code := prog_38_method_3_code, exceptionTable := #[], attributes := #[] }
def k3m2 : Method := { name := "size", desc := "()J", sig := { parameters := [], returnType := some .long }, accessFlags := 0, code := some k3c2 }
def k3c3 : Code := { maxStack := 5, maxLocals := 2, code := prog_38_method_4_code, exceptionTable := #[], attributes := #[] }
def k3m3 : Method := { name := "add", desc := "(I)V", sig := { parameters := [.int], returnType := none }, accessFlags := 0, code := some k3c3 }
def k3c4 : Code := { maxStack := 6, maxLocals := 2, code := prog_38_method_5_code, exceptionTable := #[], attributes := #[] }
def k3m4 : Method := { name := "add", desc := "([I)V", sig := { parameters := [(.array .int)], returnType := none }, accessFlags := 0, code := some k3c4 }
def k3c5 : Code := { maxStack := 4, maxLocals := 3, code := prog_38_method_6_code, exceptionTable := #[], attributes := #[] }
def k3m5 : Method := { name := "get", desc := "(J)I", sig := { parameters := [.long], returnType := some .int }, accessFlags := 0, code := some k3c5 }
def k3c6 : Code := { maxStack := 4, maxLocals := 4, code := prog_38_method_7_code, exceptionTable := #[], attributes := #[] }
def k3m6 : Method := { name := "get", desc := "(JI)I", sig := { parameters := [.long, .int], returnType := some .int }, accessFlags := 0, code := some k3c6 }
def k3c7 : Code := { maxStack := 3, maxLocals := 1, code := prog_38_method_11_code, exceptionTable := #[], attributes := #[] }
def k3m7 : Method := { name := "clear", desc := "()V", sig := { parameters := [], returnType := none }, accessFlags := 0, code := some k3c7 }
def k3c8 : Code := { maxStack := 4, maxLocals := 4, code := prog_38_method_12_code, exceptionTable := #[], attributes := #[] }
def k3m8 : Method := { name := "page", desc := "(J)[I", sig := { parameters := [.long], returnType := some (.array .int) }, accessFlags := 2, code := some k3c8 }
def k3c9 : Code := { maxStack := 4, maxLocals := 3, code := prog_38_method_13_code, exceptionTable := #[], attributes := #[] }
def k3m9 : Method := { name := "offset", desc := "(J)I", sig := { parameters := [.long], returnType := some .int }, accessFlags := 2, code := some k3c9 }
def k3c10 : Code := { maxStack := 6, maxLocals := 3, code := prog_38_method_14_code, exceptionTable := #[], attributes := #[] }
def k3m10 : Method := { name := "checkIndex", desc := "(J)V", sig := { parameters := [.long], returnType := none }, accessFlags := 2, code := some k3c10 }
/-- com/example/quillon/quillon/exploration/IntList -/
def k3 : Class := { plain "com/example/quillon/quillon/exploration/IntList" (some 0) with
  accessFlags := 48
  interfaces := #[]
  cf := some (fileOf pool3 2 #[] #[{ accessFlags := 0, nameIndex := 5, descriptorIndex := 11, attributes := #[] }, { accessFlags := 0, nameIndex := 5, descriptorIndex := 6, attributes := #[] }, { accessFlags := 0, nameIndex := 51, descriptorIndex := 111, attributes := #[] }, { accessFlags := 0, nameIndex := 112, descriptorIndex := 6, attributes := #[] }, { accessFlags := 0, nameIndex := 112, descriptorIndex := 113, attributes := #[] }, { accessFlags := 0, nameIndex := 76, descriptorIndex := 67, attributes := #[] }, { accessFlags := 0, nameIndex := 76, descriptorIndex := 77, attributes := #[] }, { accessFlags := 0, nameIndex := 120, descriptorIndex := 11, attributes := #[] }, { accessFlags := 2, nameIndex := 62, descriptorIndex := 63, attributes := #[] }, { accessFlags := 2, nameIndex := 66, descriptorIndex := 67, attributes := #[] }, { accessFlags := 2, nameIndex := 80, descriptorIndex := 81, attributes := #[] }] 48 8 #[] #[{ accessFlags := 26, nameIndex := 105, descriptorIndex := 30, attributes := #[] }, { accessFlags := 18, nameIndex := 29, descriptorIndex := 30, attributes := #[] }, { accessFlags := 18, nameIndex := 45, descriptorIndex := 30, attributes := #[] }, { accessFlags := 18, nameIndex := 48, descriptorIndex := 30, attributes := #[] }, { accessFlags := 2, nameIndex := 16, descriptorIndex := 17, attributes := #[] }, { accessFlags := 2, nameIndex := 51, descriptorIndex := 52, attributes := #[] }, { accessFlags := 4120, nameIndex := 55, descriptorIndex := 56, attributes := #[] }])
  fields := #[{ name := "PAGE_BITS", type := .int, accessFlags := 26, slot := 0, constantValue := 0 }, { name := "width", type := .int, accessFlags := 18, slot := 0, constantValue := 0 }, { name := "recordBits", type := .int, accessFlags := 18, slot := 1, constantValue := 0 }, { name := "recordMask", type := .int, accessFlags := 18, slot := 2, constantValue := 0 }, { name := "pages", type := (.array (.array .int)), accessFlags := 2, slot := 3, constantValue := 0 }, { name := "size", type := .long, accessFlags := 2, slot := 4, constantValue := 0 }, { name := "$assertionsDisabled", type := .boolean, accessFlags := 4120, slot := 1, constantValue := 0 }]
  methods := #[k3m0, k3m1, k3m2, k3m3, k3m4, k3m5, k3m6, k3m7, k3m8, k3m9, k3m10]
  instanceTypes := #[.int, .int, .int, (.array (.array .int)), .long]
  staticTypes := #[.int, .boolean]
  resolved := Array.replicate 141 none
  statics := some 0 }

def pool4 : Array CpInfo := pool [(1, .class_ 2), (0, u "java/io/Serializable"), (0, .class_ 4), (0, u "java/lang/Object")] 2

/-- java/io/Serializable -/
def k4 : Class := { plain "java/io/Serializable" (some 0) with
  accessFlags := 1537
  interfaces := #[]
  cf := some (fileOf pool4 1 #[] #[] 1537 3 #[] #[])
  fields := #[]
  methods := #[]
  instanceTypes := #[]
  staticTypes := #[]
  resolved := Array.replicate 7 none
  statics := none }

def pool5 : Array CpInfo := pool [(2, .class_ 4), (1, u "java/lang/Object"), (0, u "<init>"), (0, u "()V"), (1, .class_ 10), (1, u "java/lang/Number"), (2, .class_ 14), (0, u "java/io/Serializable"), (0, u "serialVersionUID"), (0, u "J")] 20

def k5m0 : Method := { name := "<init>", desc := "()V", sig := { parameters := [], returnType := none }, accessFlags := 1, code := none }
/-- java/lang/Number -/
def k5 : Class := { plain "java/lang/Number" (some 0) with
  accessFlags := 1057
  interfaces := #[4]
  cf := some (fileOf pool5 8 #[] #[{ accessFlags := 1, nameIndex := 5, descriptorIndex := 6, attributes := #[] }] 1057 2 #[13] #[{ accessFlags := 26, nameIndex := 15, descriptorIndex := 16, attributes := #[] }])
  fields := #[{ name := "serialVersionUID", type := .long, accessFlags := 26, slot := 0, constantValue := 0 }]
  methods := #[k5m0]
  instanceTypes := #[]
  staticTypes := #[.long]
  resolved := Array.replicate 37 none
  statics := none }

def pool6 : Array CpInfo := pool [(1, .class_ 2), (0, u "java/lang/Comparable"), (0, .class_ 4), (0, u "java/lang/Object")] 7

/-- java/lang/Comparable -/
def k6 : Class := { plain "java/lang/Comparable" (some 0) with
  accessFlags := 1537
  interfaces := #[]
  cf := some (fileOf pool6 1 #[] #[] 1537 3 #[] #[])
  fields := #[]
  methods := #[]
  instanceTypes := #[]
  staticTypes := #[]
  resolved := Array.replicate 12 none
  statics := none }

def pool7 : Array CpInfo := pool [(1, .class_ 2), (0, u "java/lang/constant/Constable"), (0, .class_ 4), (0, u "java/lang/Object")] 6

/-- java/lang/constant/Constable -/
def k7 : Class := { plain "java/lang/constant/Constable" (some 0) with
  accessFlags := 1537
  interfaces := #[]
  cf := some (fileOf pool7 1 #[] #[] 1537 3 #[] #[])
  fields := #[]
  methods := #[]
  instanceTypes := #[]
  staticTypes := #[]
  resolved := Array.replicate 11 none
  statics := none }

def pool8 : Array CpInfo := pool [(1, .class_ 2), (0, u "java/lang/constant/ConstantDesc"), (0, .class_ 4), (0, u "java/lang/Object")] 32

/-- java/lang/constant/ConstantDesc -/
def k8 : Class := { plain "java/lang/constant/ConstantDesc" (some 0) with
  accessFlags := 1537
  interfaces := #[]
  cf := some (fileOf pool8 1 #[] #[] 1537 3 #[] #[])
  fields := #[]
  methods := #[]
  instanceTypes := #[]
  staticTypes := #[]
  resolved := Array.replicate 37 none
  statics := none }

def pool9 : Array CpInfo := pool [(1, .class_ 2), (0, u "java/lang/Integer"), (16, u "digits"), (0, u "[C"), (32, u "numberOfLeadingZeros"), (0, u "(I)I"), (30, u "DigitOnes"), (0, u "[B"), (2, u "DigitTens"), (99, .class_ 190), (0, u "java/lang/Integer$IntegerCache"), (3, u "I"), (8, .class_ 204), (0, u "java/lang/Number"), (2, u "value"), (56, .integer 65536), (37, u "TYPE"), (0, u "Ljava/lang/Class;"), (0, .class_ 305), (0, u "java/lang/Comparable"), (0, .class_ 307), (0, u "java/lang/constant/Constable"), (0, .class_ 309), (0, u "java/lang/constant/ConstantDesc"), (0, u "MIN_VALUE"), (1, u "MAX_VALUE"), (3, u "SIZE"), (1, u "BYTES"), (1, u "serialVersionUID"), (0, u "J")] 131

def k9c0 : Code := { maxStack := 3, maxLocals := 2, code := jdk_33_method_47_code, exceptionTable := #[], attributes := #[] }
def k9m0 : Method := { name := "numberOfLeadingZeros", desc := "(I)I", sig := { parameters := [.int], returnType := some .int }, accessFlags := 9, code := some k9c0 }
/-- java/lang/Integer -/
def k9 : Class := { plain "java/lang/Integer" (some 5) with
  accessFlags := 49
  interfaces := #[6, 7, 8]
  cf := some (fileOf pool9 1 #[.nestMembers #[189]] #[{ accessFlags := 9, nameIndex := 53, descriptorIndex := 54, attributes := #[] }] 49 203 #[304, 306, 308] #[{ accessFlags := 25, nameIndex := 310, descriptorIndex := 194, attributes := #[] }, { accessFlags := 25, nameIndex := 312, descriptorIndex := 194, attributes := #[] }, { accessFlags := 25, nameIndex := 302, descriptorIndex := 303, attributes := #[] }, { accessFlags := 24, nameIndex := 19, descriptorIndex := 20, attributes := #[] }, { accessFlags := 24, nameIndex := 89, descriptorIndex := 86, attributes := #[] }, { accessFlags := 24, nameIndex := 85, descriptorIndex := 86, attributes := #[] }, { accessFlags := 18, nameIndex := 207, descriptorIndex := 194, attributes := #[] }, { accessFlags := 25, nameIndex := 316, descriptorIndex := 194, attributes := #[] }, { accessFlags := 25, nameIndex := 318, descriptorIndex := 194, attributes := #[] }, { accessFlags := 26, nameIndex := 320, descriptorIndex := 321, attributes := #[] }])
  fields := #[{ name := "MIN_VALUE", type := .int, accessFlags := 25, slot := 0, constantValue := 0 }, { name := "MAX_VALUE", type := .int, accessFlags := 25, slot := 1, constantValue := 0 }, { name := "TYPE", type := (.object "java/lang/Class"), accessFlags := 25, slot := 2, constantValue := 0 }, { name := "digits", type := (.array .char), accessFlags := 24, slot := 3, constantValue := 0 }, { name := "DigitTens", type := (.array .byte), accessFlags := 24, slot := 4, constantValue := 0 }, { name := "DigitOnes", type := (.array .byte), accessFlags := 24, slot := 5, constantValue := 0 }, { name := "value", type := .int, accessFlags := 18, slot := 0, constantValue := 0 }, { name := "SIZE", type := .int, accessFlags := 25, slot := 6, constantValue := 0 }, { name := "BYTES", type := .int, accessFlags := 25, slot := 7, constantValue := 0 }, { name := "serialVersionUID", type := .long, accessFlags := 26, slot := 8, constantValue := 0 }]
  methods := #[k9m0]
  instanceTypes := #[.int]
  staticTypes := #[.int, .int, (.object "java/lang/Class"), (.array .char), (.array .byte), (.array .byte), .int, .int, .long]
  resolved := Array.replicate 453 none
  statics := none }

def pool10 : Array CpInfo := pool [(2, .class_ 4), (1, u "java/lang/Object"), (0, u "<init>"), (0, u "()V"), (1, .class_ 10), (1, u "java/lang/System"), (0, u "allowSecurityManager"), (0, u "I"), (16, u "cons"), (0, u "Ljava/io/Console;"), (77, .class_ 110), (1, u "java/lang/System$CallersHolder"), (43, u "initialErrStream"), (0, u "Ljava/io/PrintStream;"), (19, u "security"), (0, u "Ljava/lang/SecurityManager;"), (31, .class_ 209), (0, u "java/lang/System$1"), (7, u "props"), (0, u "Ljava/util/Properties;"), (2, u "lineSeparator"), (0, u "Ljava/lang/String;"), (96, .class_ 321), (1, u "java/lang/System$LoggerFinder"), (5, .class_ 328), (0, u "java/lang/System$Logger"), (67, u "err"), (2, u "out"), (91, u "notSupportedJnuEncoding"), (15, u "in"), (17, u "initialIn"), (0, u "Ljava/io/InputStream;"), (35, u "bootLayer"), (0, u "Ljava/lang/ModuleLayer;"), (99, .class_ 664), (0, u "java/lang/System$2"), (9, u "NEVER"), (2, u "MAYBE"), (49, u "arraycopy"), (0, u "(Ljava/lang/Object;ILjava/lang/Object;II)V"), (72, .class_ 802), (0, u "java/lang/System$Logger$Level")] 31

def k10m0 : Method := { name := "<init>", desc := "()V", sig := { parameters := [], returnType := none }, accessFlags := 2, code := none }
def k10m1 : Method := { name := "arraycopy", desc := "(Ljava/lang/Object;ILjava/lang/Object;II)V", sig := { parameters := [(.object "java/lang/Object"), .int, (.object "java/lang/Object"), .int, .int], returnType := none }, accessFlags := 265, code := none }
/-- java/lang/System -/
def k10 : Class := { plain "java/lang/System" (some 0) with
  accessFlags := 49
  interfaces := #[]
  cf := some (fileOf pool10 8 #[.nestMembers #[319, 327, 801, 108, 663, 208]] #[{ accessFlags := 2, nameIndex := 5, descriptorIndex := 6, attributes := #[] }, { accessFlags := 265, nameIndex := 727, descriptorIndex := 728, attributes := #[] }] 49 2 #[] #[{ accessFlags := 25, nameIndex := 507, descriptorIndex := 526, attributes := #[] }, { accessFlags := 25, nameIndex := 399, descriptorIndex := 155, attributes := #[] }, { accessFlags := 25, nameIndex := 396, descriptorIndex := 155, attributes := #[] }, { accessFlags := 10, nameIndex := 525, descriptorIndex := 526, attributes := #[] }, { accessFlags := 26, nameIndex := 674, descriptorIndex := 12, attributes := #[] }, { accessFlags := 26, nameIndex := 677, descriptorIndex := 12, attributes := #[] }, { accessFlags := 10, nameIndex := 11, descriptorIndex := 12, attributes := #[] }, { accessFlags := 74, nameIndex := 175, descriptorIndex := 176, attributes := #[] }, { accessFlags := 10, nameIndex := 491, descriptorIndex := 222, attributes := #[] }, { accessFlags := 74, nameIndex := 29, descriptorIndex := 30, attributes := #[] }, { accessFlags := 74, nameIndex := 154, descriptorIndex := 155, attributes := #[] }, { accessFlags := 10, nameIndex := 217, descriptorIndex := 218, attributes := #[] }, { accessFlags := 10, nameIndex := 221, descriptorIndex := 222, attributes := #[] }, { accessFlags := 8, nameIndex := 562, descriptorIndex := 563, attributes := #[] }])
  fields := #[{ name := "in", type := (.object "java/io/InputStream"), accessFlags := 25, slot := 0, constantValue := 0 }, { name := "out", type := (.object "java/io/PrintStream"), accessFlags := 25, slot := 1, constantValue := 0 }, { name := "err", type := (.object "java/io/PrintStream"), accessFlags := 25, slot := 2, constantValue := 0 }, { name := "initialIn", type := (.object "java/io/InputStream"), accessFlags := 10, slot := 3, constantValue := 0 }, { name := "NEVER", type := .int, accessFlags := 26, slot := 4, constantValue := 0 }, { name := "MAYBE", type := .int, accessFlags := 26, slot := 5, constantValue := 0 }, { name := "allowSecurityManager", type := .int, accessFlags := 10, slot := 6, constantValue := 0 }, { name := "security", type := (.object "java/lang/SecurityManager"), accessFlags := 74, slot := 7, constantValue := 0 }, { name := "notSupportedJnuEncoding", type := (.object "java/lang/String"), accessFlags := 10, slot := 8, constantValue := 0 }, { name := "cons", type := (.object "java/io/Console"), accessFlags := 74, slot := 9, constantValue := 0 }, { name := "initialErrStream", type := (.object "java/io/PrintStream"), accessFlags := 74, slot := 10, constantValue := 0 }, { name := "props", type := (.object "java/util/Properties"), accessFlags := 10, slot := 11, constantValue := 0 }, { name := "lineSeparator", type := (.object "java/lang/String"), accessFlags := 10, slot := 12, constantValue := 0 }, { name := "bootLayer", type := (.object "java/lang/ModuleLayer"), accessFlags := 8, slot := 13, constantValue := 0 }]
  methods := #[k10m0, k10m1]
  instanceTypes := #[]
  staticTypes := #[(.object "java/io/InputStream"), (.object "java/io/PrintStream"), (.object "java/io/PrintStream"), (.object "java/io/InputStream"), .int, .int, .int, (.object "java/lang/SecurityManager"), (.object "java/lang/String"), (.object "java/io/Console"), (.object "java/io/PrintStream"), (.object "java/util/Properties"), (.object "java/lang/String"), (.object "java/lang/ModuleLayer")]
  resolved := Array.replicate 834 none
  statics := none }

def pool11 : Array CpInfo := pool [(1, u "java/lang/Cloneable"), (0, .class_ 1), (0, u "java/lang/Object"), (0, .class_ 3)] 3

/-- java/lang/Cloneable -/
def k11 : Class := { plain "java/lang/Cloneable" (some 0) with
  accessFlags := 1537
  interfaces := #[]
  cf := some (fileOf pool11 2 #[] #[] 1537 4 #[] #[])
  fields := #[]
  methods := #[]
  instanceTypes := #[]
  staticTypes := #[]
  resolved := Array.replicate 8 none
  statics := none }

/-- the primitive byte -/
def k12 : Class := { plain "byte" none with kind := .primitive 'B', accessFlags := 0x411 }
/-- [B -/
def k13 : Class := { plain "[B" (some 0) with kind := .array 12 .byte, interfaces := #[11, 4], accessFlags := 1041 }

/-- the primitive int -/
def k14 : Class := { plain "int" none with kind := .primitive 'I', accessFlags := 0x411 }
/-- [I -/
def k15 : Class := { plain "[I" (some 0) with kind := .array 14 .int, interfaces := #[11, 4], accessFlags := 1041 }
/-- [[I -/
def k16 : Class := { plain "[[I" (some 0) with kind := .array 15 (.array .int), interfaces := #[11, 4], accessFlags := 1041 }

def heap : Heap := #[{ cls := 3, slots := #[.int 0, .int 1], vm := .statics 3 }]
def classes : Array Class := #[k0, k1, k2, k3, k4, k5, k6, k7, k8, k9, k10, k11, k12, k13, k14, k15, k16]
def interned : List (Array UInt16 × Addr) := []
def slotsUsed : Nat := 2
def theMethod : MethodId := ⟨1, 2⟩
def args0 : Array Value := #[.int 5, .int 5, .int 5, .int 5, .int 5, .int 5]
def aboutOver (below : List Frame) : State where
  vm := { classes := classes, interned := interned.toArray }
  heap := heap
  slotsUsed := slotsUsed
  threads := #[{ frames := .invoking theMethod args0 :: below }]
def below0 : List Frame := [.native { method := ⟨0, 0⟩, args := #[] }]
def about1 : State := aboutOver below0
def p0 : Program := .bare "" "" ""
def e0 : Env := launch0.env 0 0 0
theorem w_frames : about1.frames = Frame.invoking theMethod args0 :: below0 := rfl
set_option maxRecDepth 65536 in
theorem w_args : argsFit about1.vm theMethod args0 = true := by decide +kernel
set_option maxRecDepth 65536 in
theorem w_heap : heapFits about1 = true := by decide +kernel
set_option maxRecDepth 65536 in
theorem w_runnable : about1.curStatus? = some .runnable := by decide +kernel
set_option maxRecDepth 65536 in
theorem w_alone : about1.alone = true := by decide +kernel
set_option maxRecDepth 65536 in
theorem w_named : about1.methodNamed? x = some theMethod := by decide +kernel
set_option maxRecDepth 65536 in
theorem w_hears : about1.hears theMethod below0 = true := by decide +kernel
set_option maxRecDepth 65536 in
theorem w_ripe : about1.ripe theMethod args0 below0 = true := by decide +kernel
theorem w_running : about1.status = .running := rfl
set_option maxRecDepth 65536 in
theorem w_room : about1.hasRoom e0.platform room_1 = true :=
  launch0.hasRoom_least _ room_1 (by decide +kernel) (by decide +kernel) (by decide +kernel) (by decide +kernel) (by decide +kernel) (by decide +kernel)
theorem allAtoms_all (ts : List Jvm.Cond) (a : Array Jvm.Value) (st : Jvm.State) : (allAtoms ts).before a st = ts.all (fun c => c.before a st) := by
  induction ts with
  | nil => rfl
  | cons c t ih =>
    show (Jvm.Cond.and c (allAtoms t)).before a st = _
    rw [Jvm.Cond.before_and, ih, List.all_cons]
def words1 : List Jvm.Cond := Jvm.Cond.code x code maxLocals ret :: tables_1
/-- a 'code' word, met by the world's own term for the bytes: nothing is compared byte by byte -/
theorem code_word {y : MethodName} {bytes : ByteArray} {mx : Nat} {rt : Option FieldType} {a : Array Value} {s : State} {m : MethodId} {meth : Method} {c : Code} (h1 : s.methodNamed? y = some m) (h2 : s.vm.method? m = some meth) (h3 : meth.code = some c) (h4 : c.code = bytes)
    (h5 : (c.maxLocals == mx && c.exceptionTable.isEmpty && decide (c.maxStack ≤ mostOperands) && decide (meth.sig.returnType = rt) && !meth.locks && decide (parseMethodDescriptor y.desc = some meth.sig)) = true) : (Jvm.Cond.code y bytes mx rt).before a s = true := by
  simp only [Bool.and_eq_true, beq_iff_eq, Bool.not_eq_true', decide_eq_true_eq] at h5
  obtain ⟨⟨⟨⟨⟨g1, g2⟩, g3⟩, g4⟩, g5⟩, g6⟩ := h5
  simp [Cond.before, Cond.holds, Cond.value, h1, h2, h3, h4, g1, g2, g3, g4, g5, g6]
def isCode : Jvm.Cond → Bool
  | .code _ _ _ _ => true
  | _ => false
theorem all_split {L : List Jvm.Cond} {P : Jvm.Cond → Bool} (h1 : L.all (fun c => isCode c || P c) = true) (h2 : ∀ c ∈ L.filter isCode, P c = true) : L.all P = true := by
  refine List.all_eq_true.mpr fun c hc => ?_
  have h := List.all_eq_true.mp h1 c hc
  rcases Bool.eq_false_or_eq_true (isCode c) with hi | hi
  · exact h2 c (List.mem_filter.mpr ⟨hc, hi⟩)
  · simpa [hi] using h
set_option maxRecDepth 65536 in
theorem w_c0 : (Jvm.Cond.code x code maxLocals ret).before args0 about1 = true := code_word (m := ⟨1, 2⟩) (meth := k1m2) (c := k1c2) (by decide +kernel) rfl rfl rfl (by decide +kernel)
set_option maxRecDepth 65536 in
theorem w_c1 : (Jvm.Cond.code ({ cls := "java/lang/Math", name := "min", desc := "(II)I" } : Jvm.MethodName) jdk_29_method_69_code (2 : Nat) (Option.some Jvm.ClassFile.FieldType.int)).before args0 about1 = true := code_word (m := ⟨2, 2⟩) (meth := k2m2) (c := k2c2) (by decide +kernel) rfl rfl rfl (by decide +kernel)
set_option maxRecDepth 65536 in
theorem w_c2 : (Jvm.Cond.code ({ cls := "com/example/quillon/quillon/exploration/IntList", name := "<init>", desc := "(I)V" } : Jvm.MethodName) prog_38_method_2_code (2 : Nat) (Option.none : Option Jvm.ClassFile.FieldType)).before args0 about1 = true := code_word (m := ⟨3, 1⟩) (meth := k3m1) (c := k3c1) (by decide +kernel) rfl rfl rfl (by decide +kernel)
set_option maxRecDepth 65536 in
theorem w_c3 : (Jvm.Cond.code ({ cls := "java/lang/Object", name := "<init>", desc := "()V" } : Jvm.MethodName) object_method_1_code (1 : Nat) (Option.none : Option Jvm.ClassFile.FieldType)).before args0 about1 = true := code_word (m := ⟨0, 0⟩) (meth := k0m0) (c := k0c0) (by decide +kernel) rfl rfl rfl (by decide +kernel)
set_option maxRecDepth 65536 in
theorem w_c4 : (Jvm.Cond.code ({ cls := "java/lang/Integer", name := "numberOfLeadingZeros", desc := "(I)I" } : Jvm.MethodName) jdk_33_method_47_code (2 : Nat) (Option.some Jvm.ClassFile.FieldType.int)).before args0 about1 = true := code_word (m := ⟨9, 0⟩) (meth := k9m0) (c := k9c0) (by decide +kernel) rfl rfl rfl (by decide +kernel)
set_option maxRecDepth 65536 in
theorem w_c5 : (Jvm.Cond.code ({ cls := "java/lang/Math", name := "max", desc := "(II)I" } : Jvm.MethodName) jdk_29_method_65_code (2 : Nat) (Option.some Jvm.ClassFile.FieldType.int)).before args0 about1 = true := code_word (m := ⟨2, 1⟩) (meth := k2m1) (c := k2c1) (by decide +kernel) rfl rfl rfl (by decide +kernel)
set_option maxRecDepth 65536 in
theorem w_c6 : (Jvm.Cond.code ({ cls := "com/example/quillon/quillon/exploration/IntList", name := "clear", desc := "()V" } : Jvm.MethodName) prog_38_method_11_code (1 : Nat) (Option.none : Option Jvm.ClassFile.FieldType)).before args0 about1 = true := code_word (m := ⟨3, 7⟩) (meth := k3m7) (c := k3c7) (by decide +kernel) rfl rfl rfl (by decide +kernel)
set_option maxRecDepth 65536 in
theorem w_c7 : (Jvm.Cond.code ({ cls := "com/example/quillon/quillon/exploration/IntList", name := "size", desc := "()J" } : Jvm.MethodName) prog_38_method_3_code (1 : Nat) (Option.some Jvm.ClassFile.FieldType.long)).before args0 about1 = true := code_word (m := ⟨3, 2⟩) (meth := k3m2) (c := k3c2) (by decide +kernel) rfl rfl rfl (by decide +kernel)
set_option maxRecDepth 65536 in
theorem w_c8 : (Jvm.Cond.code ({ cls := "com/example/quillon/quillon/exploration/IntListClearPinLaw", name := "put", desc := "(Lcom/example/quillon/quillon/exploration/IntList;Z[I)V" } : Jvm.MethodName) method_2_code (3 : Nat) (Option.none : Option Jvm.ClassFile.FieldType)).before args0 about1 = true := code_word (m := ⟨1, 1⟩) (meth := k1m1) (c := k1c1) (by decide +kernel) rfl rfl rfl (by decide +kernel)
set_option maxRecDepth 65536 in
theorem w_c9 : (Jvm.Cond.code ({ cls := "com/example/quillon/quillon/exploration/IntList", name := "add", desc := "(I)V" } : Jvm.MethodName) prog_38_method_4_code (2 : Nat) (Option.none : Option Jvm.ClassFile.FieldType)).before args0 about1 = true := code_word (m := ⟨3, 3⟩) (meth := k3m3) (c := k3c3) (by decide +kernel) rfl rfl rfl (by decide +kernel)
set_option maxRecDepth 65536 in
theorem w_c10 : (Jvm.Cond.code ({ cls := "com/example/quillon/quillon/exploration/IntList", name := "page", desc := "(J)[I" } : Jvm.MethodName) prog_38_method_12_code (4 : Nat) (Option.some (Jvm.ClassFile.FieldType.array Jvm.ClassFile.FieldType.int))).before args0 about1 = true := code_word (m := ⟨3, 8⟩) (meth := k3m8) (c := k3c8) (by decide +kernel) rfl rfl rfl (by decide +kernel)
set_option maxRecDepth 65536 in
theorem w_c11 : (Jvm.Cond.code ({ cls := "com/example/quillon/quillon/exploration/IntList", name := "offset", desc := "(J)I" } : Jvm.MethodName) prog_38_method_13_code (3 : Nat) (Option.some Jvm.ClassFile.FieldType.int)).before args0 about1 = true := code_word (m := ⟨3, 9⟩) (meth := k3m9) (c := k3c9) (by decide +kernel) rfl rfl rfl (by decide +kernel)
set_option maxRecDepth 65536 in
theorem w_c12 : (Jvm.Cond.code ({ cls := "com/example/quillon/quillon/exploration/IntList", name := "add", desc := "([I)V" } : Jvm.MethodName) prog_38_method_5_code (2 : Nat) (Option.none : Option Jvm.ClassFile.FieldType)).before args0 about1 = true := code_word (m := ⟨3, 4⟩) (meth := k3m4) (c := k3c4) (by decide +kernel) rfl rfl rfl (by decide +kernel)
set_option maxRecDepth 65536 in
theorem w_c13 : (Jvm.Cond.code ({ cls := "com/example/quillon/quillon/exploration/IntList", name := "get", desc := "(J)I" } : Jvm.MethodName) prog_38_method_6_code (3 : Nat) (Option.some Jvm.ClassFile.FieldType.int)).before args0 about1 = true := code_word (m := ⟨3, 5⟩) (meth := k3m5) (c := k3c5) (by decide +kernel) rfl rfl rfl (by decide +kernel)
set_option maxRecDepth 65536 in
theorem w_c14 : (Jvm.Cond.code ({ cls := "com/example/quillon/quillon/exploration/IntList", name := "get", desc := "(JI)I" } : Jvm.MethodName) prog_38_method_7_code (4 : Nat) (Option.some Jvm.ClassFile.FieldType.int)).before args0 about1 = true := code_word (m := ⟨3, 6⟩) (meth := k3m6) (c := k3c6) (by decide +kernel) rfl rfl rfl (by decide +kernel)
set_option maxRecDepth 65536 in
theorem w_c15 : (Jvm.Cond.code ({ cls := "com/example/quillon/quillon/exploration/IntList", name := "checkIndex", desc := "(J)V" } : Jvm.MethodName) prog_38_method_14_code (3 : Nat) (Option.none : Option Jvm.ClassFile.FieldType)).before args0 about1 = true := code_word (m := ⟨3, 10⟩) (meth := k3m10) (c := k3c10) (by decide +kernel) rfl rfl rfl (by decide +kernel)
def codes1 : List Jvm.Cond := [Jvm.Cond.code x code maxLocals ret, Jvm.Cond.code ({ cls := "java/lang/Math", name := "min", desc := "(II)I" } : Jvm.MethodName) jdk_29_method_69_code (2 : Nat) (Option.some Jvm.ClassFile.FieldType.int), Jvm.Cond.code ({ cls := "com/example/quillon/quillon/exploration/IntList", name := "<init>", desc := "(I)V" } : Jvm.MethodName) prog_38_method_2_code (2 : Nat) (Option.none : Option Jvm.ClassFile.FieldType), Jvm.Cond.code ({ cls := "java/lang/Object", name := "<init>", desc := "()V" } : Jvm.MethodName) object_method_1_code (1 : Nat) (Option.none : Option Jvm.ClassFile.FieldType), Jvm.Cond.code ({ cls := "java/lang/Integer", name := "numberOfLeadingZeros", desc := "(I)I" } : Jvm.MethodName) jdk_33_method_47_code (2 : Nat) (Option.some Jvm.ClassFile.FieldType.int), Jvm.Cond.code ({ cls := "java/lang/Math", name := "max", desc := "(II)I" } : Jvm.MethodName) jdk_29_method_65_code (2 : Nat) (Option.some Jvm.ClassFile.FieldType.int), Jvm.Cond.code ({ cls := "com/example/quillon/quillon/exploration/IntList", name := "clear", desc := "()V" } : Jvm.MethodName) prog_38_method_11_code (1 : Nat) (Option.none : Option Jvm.ClassFile.FieldType), Jvm.Cond.code ({ cls := "com/example/quillon/quillon/exploration/IntList", name := "size", desc := "()J" } : Jvm.MethodName) prog_38_method_3_code (1 : Nat) (Option.some Jvm.ClassFile.FieldType.long), Jvm.Cond.code ({ cls := "com/example/quillon/quillon/exploration/IntListClearPinLaw", name := "put", desc := "(Lcom/example/quillon/quillon/exploration/IntList;Z[I)V" } : Jvm.MethodName) method_2_code (3 : Nat) (Option.none : Option Jvm.ClassFile.FieldType), Jvm.Cond.code ({ cls := "com/example/quillon/quillon/exploration/IntList", name := "add", desc := "(I)V" } : Jvm.MethodName) prog_38_method_4_code (2 : Nat) (Option.none : Option Jvm.ClassFile.FieldType), Jvm.Cond.code ({ cls := "com/example/quillon/quillon/exploration/IntList", name := "page", desc := "(J)[I" } : Jvm.MethodName) prog_38_method_12_code (4 : Nat) (Option.some (Jvm.ClassFile.FieldType.array Jvm.ClassFile.FieldType.int)), Jvm.Cond.code ({ cls := "com/example/quillon/quillon/exploration/IntList", name := "offset", desc := "(J)I" } : Jvm.MethodName) prog_38_method_13_code (3 : Nat) (Option.some Jvm.ClassFile.FieldType.int), Jvm.Cond.code ({ cls := "com/example/quillon/quillon/exploration/IntList", name := "add", desc := "([I)V" } : Jvm.MethodName) prog_38_method_5_code (2 : Nat) (Option.none : Option Jvm.ClassFile.FieldType), Jvm.Cond.code ({ cls := "com/example/quillon/quillon/exploration/IntList", name := "get", desc := "(J)I" } : Jvm.MethodName) prog_38_method_6_code (3 : Nat) (Option.some Jvm.ClassFile.FieldType.int), Jvm.Cond.code ({ cls := "com/example/quillon/quillon/exploration/IntList", name := "get", desc := "(JI)I" } : Jvm.MethodName) prog_38_method_7_code (4 : Nat) (Option.some Jvm.ClassFile.FieldType.int), Jvm.Cond.code ({ cls := "com/example/quillon/quillon/exploration/IntList", name := "checkIndex", desc := "(J)V" } : Jvm.MethodName) prog_38_method_14_code (3 : Nat) (Option.none : Option Jvm.ClassFile.FieldType)]
set_option maxRecDepth 65536 in
theorem codes_eq : words1.filter isCode = codes1 := rfl
theorem w_codes : ∀ c ∈ words1.filter isCode, c.before args0 about1 = true := by
  rw [codes_eq]
  intro c hc
  simp only [codes1, List.mem_cons, List.not_mem_nil, or_false] at hc
  rcases hc with rfl | rfl | rfl | rfl | rfl | rfl | rfl | rfl | rfl | rfl | rfl | rfl | rfl | rfl | rfl | rfl
  · exact w_c0
  · exact w_c1
  · exact w_c2
  · exact w_c3
  · exact w_c4
  · exact w_c5
  · exact w_c6
  · exact w_c7
  · exact w_c8
  · exact w_c9
  · exact w_c10
  · exact w_c11
  · exact w_c12
  · exact w_c13
  · exact w_c14
  · exact w_c15
set_option maxRecDepth 65536 in
theorem w_t1 : (words1.take 24).all (fun c => isCode c || c.before args0 about1) = true := by decide +kernel
set_option maxRecDepth 65536 in
theorem w_t2 : ((words1.drop 24).take 24).all (fun c => isCode c || c.before args0 about1) = true := by decide +kernel
set_option maxRecDepth 65536 in
theorem w_t3 : (((words1.drop 24).drop 24).take 24).all (fun c => isCode c || c.before args0 about1) = true := by decide +kernel
set_option maxRecDepth 65536 in
theorem w_t4 : (((words1.drop 24).drop 24).drop 24).all (fun c => isCode c || c.before args0 about1) = true := by decide +kernel
theorem w_tables : (allAtoms (Jvm.Cond.code x code maxLocals ret :: tables_1)).before args0 about1 = true := by
  rw [allAtoms_all]
  show words1.all (fun c => c.before args0 about1) = true
  refine all_split ?_ w_codes
  rw [← List.take_append_drop 24 words1, List.all_append, w_t1, ← List.take_append_drop 24 (words1.drop 24), List.all_append, w_t2, ← List.take_append_drop 24 ((words1.drop 24).drop 24), List.all_append, w_t3, w_t4]
  rfl
set_option maxRecDepth 65536 in
theorem w_case : (Jvm.Cond.and given_1 narrow_1).before args0 about1 = true := by decide +kernel
theorem w_applies : (headSpec (Jvm.Cond.code x code maxLocals ret :: tables_1) room_1).applies x e0.platform about1 = true :=
  (Spec.applies_iff w_frames).mpr ⟨w_running, w_runnable, w_alone, w_named, w_hears, w_ripe, w_room, w_tables⟩
theorem atStart : AtStart classFile x code maxLocals ret World_1 tables_1 room_1 Calls_1 rest_1 Pre_1 launch0 p0 e0 about1 theMethod args0 below0 :=
  ⟨lists_1, trivial, launch0.admits_env _ _ _, launch0.least_env, fairChoices_fair.cas, fairChoices_fair.clock, w_frames, w_args, w_heap, w_applies, trivial, trivial, w_case⟩
end start1
theorem witness_1 : WitnessClaimed_1 := ⟨start1.p0, start1.e0, start1.about1, start1.theMethod, start1.args0, start1.below0, start1.atStart⟩
end Jvm.Pilot.@@N@@
