import JvmDerived
import JvmDerived.Pilot.@@N@@Statement
import JvmDerived.Pilot.@@N@@Code
set_option linter.unusedVariables false
set_option linter.unusedSimpArgs false
namespace Jvm.RoadKit
open Sem ClassFile Op Lib Jvm.Stand Jvm.Free Jvm.LawKit
section New
variable {p : Program} {l : Launch} {e : Env} {R : Room} {s : State} {m : MethodId} {args : Array Value} {below : List Frame} {meth : Method} {c : Code} {T : State} {locs : List Loc} {cells slots : Nat}
theorem retI (X : Stand p l e R s m args below meth c T locs cells slots) (hx : p.tables.exec = Jvm.exec) {pc : Nat} {Ls : Array Slot} {z : Int32} {rest : List Value} (hret : meth.sig.returnType = some .int) (hd : decode c.code pc = .ok (.ireturn, 1)) {fs : List Frame}
    (hl : ∀ (f : JFrame) (acts : List Action), f.method = m → f.locked = none → f.entered = [] → (doReturn e (T.setTop f) acts (some (.int z))).1 = T.setFrames fs) : Steps p.tables e below (T.setTop (mkF m pc Ls (.int z :: rest))) (T.setFrames fs) := by
  have hm' : T.vm.method? m = some meth := X.method'
  have hn : narrow .int (.int z) = .int z := rfl
  show Steps p.tables e below (T.setTop { method := m, pc := pc, locals := Ls, stack := _ :: rest, locked := none }) _
  jvm_step X.here [X.here.top, hx, hd, hm', hret, hn]
  first | (intro acts; rw [hl _ acts rfl rfl rfl]) | rw [hl _ _ rfl rfl rfl]
  exact Steps.refl _
end New
end Jvm.RoadKit
namespace Jvm.Pilot.@@N@@
open Jvm Jvm.ClassFile Sem Op Lib Jvm.Free Jvm.Stand Jvm.LawKit Jvm.RoadKit Bundle Jvm.Pilot.@@N@@.Jvm.D
/-! OWN KIT: a walk as one forward chain. OwF: from frame f at T the run ends, and D says how. OwC: the setting of a body. OwCon: a body's contract. -/
section OwnKit
variable {p : Program} {l : Launch} {e : Env} {R : Room} {s : State} {m : MethodId} {args : Array Value} {below : List Frame} {meth : Method} {c : Code} {T : State} {locs : List Loc} {cells slots : Nat} {Z : State} {a0 : Array Value} {h : Heap}
variable {own nm : String} {bytes : ByteArray} {maxL : Nat} {ret : Option FieldType} {D : State → Outcome → Prop} {pc pc' : Nat} {Ls : Array Slot} {r : List Value}
def OwF (p : Program) (e : Env) (below : List Frame) (D : State → Outcome → Prop) (T : State) (f : JFrame) : Prop := ∃ t o, Steps p.tables e below (T.setTop f) t ∧ D t o
def OwC (p : Program) (Z s : State) (m : MethodId) (meth : Method) (c : Code) (own nm : String) (bytes : ByteArray) (maxL : Nat) (ret : Option FieldType) : Prop :=
  p.tables.exec = Jvm.exec ∧ c.code = bytes ∧ c.maxLocals = maxL ∧ s.vm.findClass own = some m.cls ∧ meth.name = nm ∧ meth.sig.returnType = ret ∧ meth.locks = false ∧ Z.Warmed39 s.vm
def OwD (s : State) (below : List Frame) (Q : Option Value → Heap → List Loc → Prop) (kc ks : Nat) (t : State) (o : Outcome) : Prop :=
  t.status = .running ∧ Ended t below o ∧ ∃ v L, o = .returned v ∧ Q v t.heap L ∧ FrameEnd s o t L kc ks
def OwCon (l : Launch) (y : MethodName) (bytes : ByteArray) (maxL : Nat) (ret : Option FieldType) (rm : Room) (Z : State) (as' : Array Value) (h : Heap) (Q : Option Value → Heap → List Loc → Prop) : Prop :=
  ∀ ws, MetFree l y (head1 (Jvm.Cond.code y bytes maxL ret :: ws) rm) (fun a U => a = as' ∧ Z.Warmed39 U.vm ∧ U.heap = h) (fun _ _ _ _ _ => True) (fun _ U o U' => ∃ v L, o = .returned v ∧ Q v U'.heap L ∧ FrameEnd U o U' L rm.cells rm.slots)
theorem OwF.st {T' : State} {f f' : JFrame} (h : ∀ t, Steps p.tables e below (T'.setTop f') t → Steps p.tables e below (T.setTop f) t) (k : OwF p e below D T' f') : OwF p e below D T f := by
  obtain ⟨t, o, q, d⟩ := k; exact ⟨t, o, h t q, d⟩
theorem OwCon.of {y : MethodName} {rm : Room} {as' : Array Value} {Q : Option Value → Heap → List Loc → Prop} (hpl : plainFor y = true) {Ls : Array Slot} (hent : ∀ m, entryFrame m as' maxL = mkF m 0 Ls [])
    (body : ∀ (p : Program) (e : Env) (s : State) (m : MethodId) (below : List Frame) (meth : Method) (c : Code) (s₁ : State), OwC p Z s m meth c y.cls y.name bytes maxL ret → Stand p l e rm s m as' below meth c s₁ [] 0 0 → s₁.heap = h → OwF p e below (OwD s below Q rm.cells rm.slots) s₁ (mkF m 0 Ls [])) :
    OwCon l y bytes maxL ret rm Z as' h Q := by
  intro ws
  refine MetFree.of_bodySF hpl hisR ?_
  intro p e s m args below meth c s₁ Bd hml0 hP hK
  obtain ⟨rfl, hZ, hh⟩ := hP
  have X0 : Stand p l e rm s m args below meth c s₁ [] 0 0 := Stand.of_body Bd
  obtain ⟨t, o, h1, h2, h3, h4⟩ := body p e s m below meth c s₁ ⟨Bd.exec, Bd.bytes, hml0, findClass_of_methodNamed Bd.named, (name_of_methodNamed Bd.named Bd.method).1, Bd.returns, BodyLoose.notSynchronized Bd, hZ⟩ X0 (by rw [← hh, Bd.state]; rfl)
  exact ⟨t, o, castTop (hent m) h1, h2, h3, h4⟩
/-- a contract may say less -/
theorem OwCon.mono {y : MethodName} {rm : Room} {as' : Array Value} {Q Q' : Option Value → Heap → List Loc → Prop} (M : OwCon l y bytes maxL ret rm Z as' h Q) (hq : ∀ v h' L, Q v h' L → Q' v h' L) : OwCon l y bytes maxL ret rm Z as' h Q' := by
  intro ws p e ha hc hk s m args below hf happ hP hK
  obtain ⟨n, o, h1, h2, h3, v, L, h4, h5, h6⟩ := M ws p e ha hc hk s m args below hf happ hP hK
  exact ⟨n, o, h1, h2, h3, v, L, h4, hq _ _ _ h5, h6⟩
/-- two roads that meet -/
theorem ow_join {f f' : JFrame} (X : Stand p l e R s m args below meth c T locs cells slots) (eT : T.heap = h) (A : ∀ D : State → Outcome → Prop, (∀ T', Stand p l e R s m args below meth c T' locs cells slots → T'.heap = h → OwF p e below D T' f') → OwF p e below D T f)
    (k : ∀ T', Stand p l e R s m args below meth c T' locs cells slots → T'.heap = h → OwF p e below D T' f') : OwF p e below D T f := A D k
/-- a long or nothing, in two places -/
def OwTwo (x y : Slot) : Prop := (x = .unset ∧ y = .unset) ∨ ∃ v : Int64, x = .val (.long v) ∧ y = .second
/-- two roads that meet, with locals that are read no more -/
theorem ow_joinL {f : JFrame} {r' : List Value} {P : Array Slot → Prop} (X : Stand p l e R s m args below meth c T locs cells slots) (eT : T.heap = h) (A : ∀ D : State → Outcome → Prop, (∀ Ls' T', P Ls' → Stand p l e R s m args below meth c T' locs cells slots → T'.heap = h → OwF p e below D T' (mkF m pc' Ls' r')) → OwF p e below D T f)
    (k : ∀ Ls' T', P Ls' → Stand p l e R s m args below meth c T' locs cells slots → T'.heap = h → OwF p e below D T' (mkF m pc' Ls' r')) : OwF p e below D T f := A D k
/-! returns -/
theorem ow_retI {Q : Option Value → Heap → List Loc → Prop} {kc ks : Nat} {z : Int32} (C : OwC p Z s m meth c own nm bytes maxL (some .int)) (X : Stand p l e R s m args below meth c T locs cells slots) (hd : decode bytes pc = .ok (.ireturn, 1)) (hc : cells ≤ kc) (hs : slots ≤ ks)
    (hQ : Q (some (.int z)) T.heap locs) : OwF p e below (OwD s below Q kc ks) T (mkF m pc Ls (.int z :: r)) := by
  obtain ⟨hx, hby, -, -, -, hret, hlk, -⟩ := C
  obtain ⟨fs, hr, hrun, hended, hW, hsame⟩ := X.leave (v := some (.int z)) (fun h => by rw [hret] at h; cases h) hlk
  exact ⟨_, _, retI X hx hret (hb hby hd) hr, hrun, hended, _, _, rfl, hQ, ⟨_, rfl⟩, hW, hsame.mono hc hs⟩
theorem ow_retZ {Q : Option Value → Heap → List Loc → Prop} {kc ks : Nat} {z : Int32} (C : OwC p Z s m meth c own nm bytes maxL (some .boolean)) (X : Stand p l e R s m args below meth c T locs cells slots) (hd : decode bytes pc = .ok (.ireturn, 1)) (hc : cells ≤ kc) (hs : slots ≤ ks) (hz : z = 0 ∨ z = 1)
    (hQ : Q (some (.int z)) T.heap locs) : OwF p e below (OwD s below Q kc ks) T (mkF m pc Ls (.int z :: r)) := by
  obtain ⟨hx, hby, -, -, -, hret, hlk, -⟩ := C
  have hn : nar .boolean z = z := by rcases hz with rfl | rfl <;> decide
  obtain ⟨fs, hr, hrun, hended, hW, hsame⟩ := X.leave (v := some (.int z)) (fun h => by rw [hret] at h; cases h) hlk
  exact ⟨_, _, retN X hx hret (by simp) (hb hby hd) (by rw [hn]; exact hr), hrun, hended, _, _, rfl, hQ, ⟨_, rfl⟩, hW, hsame.mono hc hs⟩
theorem ow_retJ {Q : Option Value → Heap → List Loc → Prop} {kc ks : Nat} {z : Int64} (C : OwC p Z s m meth c own nm bytes maxL (some .long)) (X : Stand p l e R s m args below meth c T locs cells slots) (hd : decode bytes pc = .ok (.lreturn, 1)) (hc : cells ≤ kc) (hs : slots ≤ ks)
    (hQ : Q (some (.long z)) T.heap locs) : OwF p e below (OwD s below Q kc ks) T (mkF m pc Ls [.long z]) := by
  obtain ⟨hx, hby, -, -, -, hret, hlk, -⟩ := C
  obtain ⟨fs, hr, hrun, hended, hW, hsame⟩ := X.leave (v := some (.long z)) (fun h => by rw [hret] at h; cases h) hlk
  exact ⟨_, _, X.lreturnOut hx hret (hb hby hd) hr, hrun, hended, _, _, rfl, hQ, ⟨_, rfl⟩, hW, hsame.mono hc hs⟩
theorem ow_retV {Q : Option Value → Heap → List Loc → Prop} {kc ks : Nat} (C : OwC p Z s m meth c own nm bytes maxL none) (X : Stand p l e R s m args below meth c T locs cells slots) (hd : decode bytes pc = .ok (.return_, 1)) (hc : cells ≤ kc) (hs : slots ≤ ks)
    (hQ : Q none T.heap locs) : OwF p e below (OwD s below Q kc ks) T (mkF m pc Ls []) := by
  obtain ⟨hx, hby, -, -, -, hret, hlk, -⟩ := C
  obtain ⟨fs, hr, hrun, hended, hW, hsame⟩ := X.leave (v := none) (fun _ => rfl) hlk
  exact ⟨_, _, X.returnOut hx hret (hb hby hd) hr, hrun, hended, _, _, rfl, hQ, ⟨_, rfl⟩, hW, hsame.mono hc hs⟩
end OwnKit
section OwnSteps
variable {p : Program} {l : Launch} {e : Env} {R : Room} {s : State} {m : MethodId} {args : Array Value} {below : List Frame} {meth : Method} {c : Code} {T : State} {locs : List Loc} {cells slots : Nat} {Z : State} {a0 : Array Value} {h : Heap}
variable {own nm : String} {bytes : ByteArray} {maxL : Nat} {ret : Option FieldType} {D : State → Outcome → Prop} {pc pc' pcT : Nat} {Ls Ls' : Array Slot} {r : List Value}
theorem ow_iadd {x y : Int32} (C : OwC p Z s m meth c own nm bytes maxL ret) (X : Stand p l e R s m args below meth c T locs cells slots) (hd : decode bytes pc = .ok (.iadd, 1))  (hp : pc + 1 = pc') (k : OwF p e below D T (mkF m pc' Ls (.int (x + y) :: r))) : OwF p e below D T (mkF m pc Ls (.int y :: .int x :: r)) := by
  subst hp; exact OwF.st (fun _ q => XS.iadd X.here C.1 rfl (hb C.2.1 hd) rfl q) k
theorem ow_isub {x y : Int32} (C : OwC p Z s m meth c own nm bytes maxL ret) (X : Stand p l e R s m args below meth c T locs cells slots) (hd : decode bytes pc = .ok (.isub, 1))  (hp : pc + 1 = pc') (k : OwF p e below D T (mkF m pc' Ls (.int (x - y) :: r))) : OwF p e below D T (mkF m pc Ls (.int y :: .int x :: r)) := by
  subst hp; exact OwF.st (fun _ q => XS.isub X.here C.1 rfl (hb C.2.1 hd) rfl q) k
theorem ow_imul {x y : Int32} (C : OwC p Z s m meth c own nm bytes maxL ret) (X : Stand p l e R s m args below meth c T locs cells slots) (hd : decode bytes pc = .ok (.imul, 1))  (hp : pc + 1 = pc') (k : OwF p e below D T (mkF m pc' Ls (.int (x * y) :: r))) : OwF p e below D T (mkF m pc Ls (.int y :: .int x :: r)) := by
  subst hp; exact OwF.st (fun _ q => XS.imul X.here C.1 rfl (hb C.2.1 hd) rfl q) k
theorem ow_iand {x y : Int32} (C : OwC p Z s m meth c own nm bytes maxL ret) (X : Stand p l e R s m args below meth c T locs cells slots) (hd : decode bytes pc = .ok (.iand, 1))  (hp : pc + 1 = pc') (k : OwF p e below D T (mkF m pc' Ls (.int (x &&& y) :: r))) : OwF p e below D T (mkF m pc Ls (.int y :: .int x :: r)) := by
  subst hp; exact OwF.st (fun _ q => XS.iand X.here C.1 rfl (hb C.2.1 hd) rfl q) k
theorem ow_ior {x y : Int32} (C : OwC p Z s m meth c own nm bytes maxL ret) (X : Stand p l e R s m args below meth c T locs cells slots) (hd : decode bytes pc = .ok (.ior, 1))  (hp : pc + 1 = pc') (k : OwF p e below D T (mkF m pc' Ls (.int (x ||| y) :: r))) : OwF p e below D T (mkF m pc Ls (.int y :: .int x :: r)) := by
  subst hp; exact OwF.st (fun _ q => XT.ior X.here C.1 rfl (hb C.2.1 hd) rfl q) k
theorem ow_ixor {x y : Int32} (C : OwC p Z s m meth c own nm bytes maxL ret) (X : Stand p l e R s m args below meth c T locs cells slots) (hd : decode bytes pc = .ok (.ixor, 1))  (hp : pc + 1 = pc') (k : OwF p e below D T (mkF m pc' Ls (.int (x ^^^ y) :: r))) : OwF p e below D T (mkF m pc Ls (.int y :: .int x :: r)) := by
  subst hp; exact OwF.st (fun _ q => XT.ixor X.here C.1 rfl (hb C.2.1 hd) rfl q) k
theorem ow_ishl {x y : Int32} (C : OwC p Z s m meth c own nm bytes maxL ret) (X : Stand p l e R s m args below meth c T locs cells slots) (hd : decode bytes pc = .ok (.ishl, 1))  (hp : pc + 1 = pc') (k : OwF p e below D T (mkF m pc' Ls (.int (x <<< (y &&& 31)) :: r))) : OwF p e below D T (mkF m pc Ls (.int y :: .int x :: r)) := by
  subst hp; exact OwF.st (fun _ q => XT.ishl X.here C.1 rfl (hb C.2.1 hd) rfl q) k
theorem ow_ishr {x y : Int32} (C : OwC p Z s m meth c own nm bytes maxL ret) (X : Stand p l e R s m args below meth c T locs cells slots) (hd : decode bytes pc = .ok (.ishr, 1))  (hp : pc + 1 = pc') (k : OwF p e below D T (mkF m pc' Ls (.int (x >>> (y &&& 31)) :: r))) : OwF p e below D T (mkF m pc Ls (.int y :: .int x :: r)) := by
  subst hp; exact OwF.st (fun _ q => XT.ishr X.here C.1 rfl (hb C.2.1 hd) rfl q) k
theorem ow_iushr {x y : Int32} (C : OwC p Z s m meth c own nm bytes maxL ret) (X : Stand p l e R s m args below meth c T locs cells slots) (hd : decode bytes pc = .ok (.iushr, 1))  (hp : pc + 1 = pc') (k : OwF p e below D T (mkF m pc' Ls (.int (XT.ushr x y) :: r))) : OwF p e below D T (mkF m pc Ls (.int y :: .int x :: r)) := by
  subst hp; exact OwF.st (fun _ q => XT.iushr X.here C.1 rfl (hb C.2.1 hd) rfl q) k
theorem ow_idiv {x y : Int32} (C : OwC p Z s m meth c own nm bytes maxL ret) (X : Stand p l e R s m args below meth c T locs cells slots) (hd : decode bytes pc = .ok (.idiv, 1)) (hy : y ≠ 0) (hp : pc + 1 = pc') (k : OwF p e below D T (mkF m pc' Ls (.int (x / y) :: r))) : OwF p e below D T (mkF m pc Ls (.int y :: .int x :: r)) := by
  subst hp; exact OwF.st (fun _ q => XS.idiv X.here C.1 rfl (hb C.2.1 hd) rfl hy q) k
theorem ow_irem {x y : Int32} (C : OwC p Z s m meth c own nm bytes maxL ret) (X : Stand p l e R s m args below meth c T locs cells slots) (hd : decode bytes pc = .ok (.irem, 1)) (hy : y ≠ 0) (hp : pc + 1 = pc') (k : OwF p e below D T (mkF m pc' Ls (.int (x - (x / y) * y) :: r))) : OwF p e below D T (mkF m pc Ls (.int y :: .int x :: r)) := by
  subst hp; exact OwF.st (fun _ q => XS.irem X.here C.1 rfl (hb C.2.1 hd) rfl hy q) k
theorem ow_ladd {x y : Int64} (C : OwC p Z s m meth c own nm bytes maxL ret) (X : Stand p l e R s m args below meth c T locs cells slots) (hd : decode bytes pc = .ok (.ladd, 1))  (hp : pc + 1 = pc') (k : OwF p e below D T (mkF m pc' Ls (.long (x + y) :: r))) : OwF p e below D T (mkF m pc Ls (.long y :: .long x :: r)) := by
  subst hp; exact OwF.st (fun _ q => XT.ladd X.here C.1 rfl (hb C.2.1 hd) rfl q) k
theorem ow_lsub {x y : Int64} (C : OwC p Z s m meth c own nm bytes maxL ret) (X : Stand p l e R s m args below meth c T locs cells slots) (hd : decode bytes pc = .ok (.lsub, 1))  (hp : pc + 1 = pc') (k : OwF p e below D T (mkF m pc' Ls (.long (x - y) :: r))) : OwF p e below D T (mkF m pc Ls (.long y :: .long x :: r)) := by
  subst hp; exact OwF.st (fun _ q => XT.lsub X.here C.1 rfl (hb C.2.1 hd) rfl q) k
theorem ow_lmul {x y : Int64} (C : OwC p Z s m meth c own nm bytes maxL ret) (X : Stand p l e R s m args below meth c T locs cells slots) (hd : decode bytes pc = .ok (.lmul, 1))  (hp : pc + 1 = pc') (k : OwF p e below D T (mkF m pc' Ls (.long (x * y) :: r))) : OwF p e below D T (mkF m pc Ls (.long y :: .long x :: r)) := by
  subst hp; exact OwF.st (fun _ q => XT.lmul X.here C.1 rfl (hb C.2.1 hd) rfl q) k
theorem ow_land {x y : Int64} (C : OwC p Z s m meth c own nm bytes maxL ret) (X : Stand p l e R s m args below meth c T locs cells slots) (hd : decode bytes pc = .ok (.land, 1))  (hp : pc + 1 = pc') (k : OwF p e below D T (mkF m pc' Ls (.long (x &&& y) :: r))) : OwF p e below D T (mkF m pc Ls (.long y :: .long x :: r)) := by
  subst hp; exact OwF.st (fun _ q => XT.land X.here C.1 rfl (hb C.2.1 hd) rfl q) k
theorem ow_lor {x y : Int64} (C : OwC p Z s m meth c own nm bytes maxL ret) (X : Stand p l e R s m args below meth c T locs cells slots) (hd : decode bytes pc = .ok (.lor, 1))  (hp : pc + 1 = pc') (k : OwF p e below D T (mkF m pc' Ls (.long (x ||| y) :: r))) : OwF p e below D T (mkF m pc Ls (.long y :: .long x :: r)) := by
  subst hp; exact OwF.st (fun _ q => XT.lor X.here C.1 rfl (hb C.2.1 hd) rfl q) k
theorem ow_lxor {x y : Int64} (C : OwC p Z s m meth c own nm bytes maxL ret) (X : Stand p l e R s m args below meth c T locs cells slots) (hd : decode bytes pc = .ok (.lxor, 1))  (hp : pc + 1 = pc') (k : OwF p e below D T (mkF m pc' Ls (.long (x ^^^ y) :: r))) : OwF p e below D T (mkF m pc Ls (.long y :: .long x :: r)) := by
  subst hp; exact OwF.st (fun _ q => XT.lxor X.here C.1 rfl (hb C.2.1 hd) rfl q) k
theorem ow_ldiv {x y : Int64} (C : OwC p Z s m meth c own nm bytes maxL ret) (X : Stand p l e R s m args below meth c T locs cells slots) (hd : decode bytes pc = .ok (.ldiv, 1)) (hy : y ≠ 0) (hp : pc + 1 = pc') (k : OwF p e below D T (mkF m pc' Ls (.long (x / y) :: r))) : OwF p e below D T (mkF m pc Ls (.long y :: .long x :: r)) := by
  subst hp; exact OwF.st (fun _ q => XT.ldiv X.here C.1 rfl (hb C.2.1 hd) rfl hy q) k
theorem ow_lrem {x y : Int64} (C : OwC p Z s m meth c own nm bytes maxL ret) (X : Stand p l e R s m args below meth c T locs cells slots) (hd : decode bytes pc = .ok (.lrem, 1)) (hy : y ≠ 0) (hp : pc + 1 = pc') (k : OwF p e below D T (mkF m pc' Ls (.long (x - (x / y) * y) :: r))) : OwF p e below D T (mkF m pc Ls (.long y :: .long x :: r)) := by
  subst hp; exact OwF.st (fun _ q => XT.lrem X.here C.1 rfl (hb C.2.1 hd) rfl hy q) k
theorem ow_lshl {x : Int64} {y : Int32} (C : OwC p Z s m meth c own nm bytes maxL ret) (X : Stand p l e R s m args below meth c T locs cells slots) (hd : decode bytes pc = .ok (.lshl, 1))  (hp : pc + 1 = pc') (k : OwF p e below D T (mkF m pc' Ls (.long (x <<< (y.toInt64 &&& 63)) :: r))) : OwF p e below D T (mkF m pc Ls (.int y :: .long x :: r)) := by
  subst hp; exact OwF.st (fun _ q => XT.lshl X.here C.1 rfl (hb C.2.1 hd) rfl q) k
theorem ow_lshr {x : Int64} {y : Int32} (C : OwC p Z s m meth c own nm bytes maxL ret) (X : Stand p l e R s m args below meth c T locs cells slots) (hd : decode bytes pc = .ok (.lshr, 1))  (hp : pc + 1 = pc') (k : OwF p e below D T (mkF m pc' Ls (.long (x >>> (y.toInt64 &&& 63)) :: r))) : OwF p e below D T (mkF m pc Ls (.int y :: .long x :: r)) := by
  subst hp; exact OwF.st (fun _ q => XT.lshr X.here C.1 rfl (hb C.2.1 hd) rfl q) k
theorem ow_lushr {x : Int64} {y : Int32} (C : OwC p Z s m meth c own nm bytes maxL ret) (X : Stand p l e R s m args below meth c T locs cells slots) (hd : decode bytes pc = .ok (.lushr, 1))  (hp : pc + 1 = pc') (k : OwF p e below D T (mkF m pc' Ls (.long (XT.ushrL x y) :: r))) : OwF p e below D T (mkF m pc Ls (.int y :: .long x :: r)) := by
  subst hp; exact OwF.st (fun _ q => XT.lushr X.here C.1 rfl (hb C.2.1 hd) rfl q) k
theorem ow_lcmp {x y : Int64} (C : OwC p Z s m meth c own nm bytes maxL ret) (X : Stand p l e R s m args below meth c T locs cells slots) (hd : decode bytes pc = .ok (.lcmp, 1))  (hp : pc + 1 = pc') (k : OwF p e below D T (mkF m pc' Ls (.int (XT.cmpL x y) :: r))) : OwF p e below D T (mkF m pc Ls (.long y :: .long x :: r)) := by
  subst hp; exact OwF.st (fun _ q => XT.lcmp X.here C.1 rfl (hb C.2.1 hd) rfl q) k
theorem ow_ineg {x : Int32} (C : OwC p Z s m meth c own nm bytes maxL ret) (X : Stand p l e R s m args below meth c T locs cells slots) (hd : decode bytes pc = .ok (.ineg, 1))  (hp : pc + 1 = pc') (k : OwF p e below D T (mkF m pc' Ls (.int (-x) :: r))) : OwF p e below D T (mkF m pc Ls (.int x :: r)) := by
  subst hp; exact OwF.st (fun _ q => XS.ineg X.here C.1 rfl (hb C.2.1 hd) rfl q) k
theorem ow_lneg {x : Int64} (C : OwC p Z s m meth c own nm bytes maxL ret) (X : Stand p l e R s m args below meth c T locs cells slots) (hd : decode bytes pc = .ok (.lneg, 1))  (hp : pc + 1 = pc') (k : OwF p e below D T (mkF m pc' Ls (.long (-x) :: r))) : OwF p e below D T (mkF m pc Ls (.long x :: r)) := by
  subst hp; exact OwF.st (fun _ q => XT.lneg X.here C.1 rfl (hb C.2.1 hd) rfl q) k
theorem ow_i2l {x : Int32} (C : OwC p Z s m meth c own nm bytes maxL ret) (X : Stand p l e R s m args below meth c T locs cells slots) (hd : decode bytes pc = .ok (.i2l, 1))  (hp : pc + 1 = pc') (k : OwF p e below D T (mkF m pc' Ls (.long x.toInt64 :: r))) : OwF p e below D T (mkF m pc Ls (.int x :: r)) := by
  subst hp; exact OwF.st (fun _ q => XT.i2l X.here C.1 rfl (hb C.2.1 hd) rfl q) k
theorem ow_l2i {x : Int64} (C : OwC p Z s m meth c own nm bytes maxL ret) (X : Stand p l e R s m args below meth c T locs cells slots) (hd : decode bytes pc = .ok (.l2i, 1))  (hp : pc + 1 = pc') (k : OwF p e below D T (mkF m pc' Ls (.int x.toInt32 :: r))) : OwF p e below D T (mkF m pc Ls (.long x :: r)) := by
  subst hp; exact OwF.st (fun _ q => XT.l2i X.here C.1 rfl (hb C.2.1 hd) rfl q) k
theorem ow_i2b {x : Int32} (C : OwC p Z s m meth c own nm bytes maxL ret) (X : Stand p l e R s m args below meth c T locs cells slots) (hd : decode bytes pc = .ok (.i2b, 1))  (hp : pc + 1 = pc') (k : OwF p e below D T (mkF m pc' Ls (.int x.toInt8.toInt32 :: r))) : OwF p e below D T (mkF m pc Ls (.int x :: r)) := by
  subst hp; exact OwF.st (fun _ q => XT.i2b X.here C.1 rfl (hb C.2.1 hd) rfl q) k
theorem ow_i2c {x : Int32} (C : OwC p Z s m meth c own nm bytes maxL ret) (X : Stand p l e R s m args below meth c T locs cells slots) (hd : decode bytes pc = .ok (.i2c, 1))  (hp : pc + 1 = pc') (k : OwF p e below D T (mkF m pc' Ls (.int x.toUInt32.toUInt16.toUInt32.toInt32 :: r))) : OwF p e below D T (mkF m pc Ls (.int x :: r)) := by
  subst hp; exact OwF.st (fun _ q => XT.i2c X.here C.1 rfl (hb C.2.1 hd) rfl q) k
theorem ow_i2s {x : Int32} (C : OwC p Z s m meth c own nm bytes maxL ret) (X : Stand p l e R s m args below meth c T locs cells slots) (hd : decode bytes pc = .ok (.i2s, 1))  (hp : pc + 1 = pc') (k : OwF p e below D T (mkF m pc' Ls (.int x.toInt16.toInt32 :: r))) : OwF p e below D T (mkF m pc Ls (.int x :: r)) := by
  subst hp; exact OwF.st (fun _ q => XT.i2s X.here C.1 rfl (hb C.2.1 hd) rfl q) k
theorem ow_dup {v : Value} (C : OwC p Z s m meth c own nm bytes maxL ret) (X : Stand p l e R s m args below meth c T locs cells slots) (hd : decode bytes pc = .ok (.dup, 1)) (hc : v.category = 1) (hp : pc + 1 = pc') (k : OwF p e below D T (mkF m pc' Ls (v :: v :: r))) : OwF p e below D T (mkF m pc Ls (v :: r)) := by
  subst hp; exact OwF.st (fun _ q => XS.dup X.here C.1 rfl (hb C.2.1 hd) rfl hc q) k
theorem ow_pop {v : Value} (C : OwC p Z s m meth c own nm bytes maxL ret) (X : Stand p l e R s m args below meth c T locs cells slots) (hd : decode bytes pc = .ok (.pop, 1)) (hc : v.category = 1) (hp : pc + 1 = pc') (k : OwF p e below D T (mkF m pc' Ls (r))) : OwF p e below D T (mkF m pc Ls (v :: r)) := by
  subst hp; exact OwF.st (fun _ q => XT.pop X.here C.1 rfl (hb C.2.1 hd) rfl hc q) k
theorem ow_dupX1 {v w : Value} (C : OwC p Z s m meth c own nm bytes maxL ret) (X : Stand p l e R s m args below meth c T locs cells slots) (hd : decode bytes pc = .ok (.dup_x1, 1)) (hc : v.category = 1) (hc' : w.category = 1) (hp : pc + 1 = pc') (k : OwF p e below D T (mkF m pc' Ls (v :: w :: v :: r))) : OwF p e below D T (mkF m pc Ls (v :: w :: r)) := by
  subst hp; exact OwF.st (fun _ q => XT.dupX1 X.here C.1 rfl (hb C.2.1 hd) rfl hc hc' q) k
theorem ow_dup2 {v w : Value} (C : OwC p Z s m meth c own nm bytes maxL ret) (X : Stand p l e R s m args below meth c T locs cells slots) (hd : decode bytes pc = .ok (.dup2, 1)) (hc : v.category = 1) (hc' : w.category = 1) (hp : pc + 1 = pc') (k : OwF p e below D T (mkF m pc' Ls (v :: w :: v :: w :: r))) : OwF p e below D T (mkF m pc Ls (v :: w :: r)) := by
  subst hp; exact OwF.st (fun _ q => XT.dup2 X.here C.1 rfl (hb C.2.1 hd) rfl hc hc' q) k
theorem ow_dup2L {x : Int64} (C : OwC p Z s m meth c own nm bytes maxL ret) (X : Stand p l e R s m args below meth c T locs cells slots) (hd : decode bytes pc = .ok (.dup2, 1))  (hp : pc + 1 = pc') (k : OwF p e below D T (mkF m pc' Ls (.long x :: .long x :: r))) : OwF p e below D T (mkF m pc Ls (.long x :: r)) := by
  subst hp; exact OwF.st (fun _ q => XT.dup2L X.here C.1 rfl (hb C.2.1 hd) rfl q) k
theorem ow_aconstNull  (C : OwC p Z s m meth c own nm bytes maxL ret) (X : Stand p l e R s m args below meth c T locs cells slots) (hd : decode bytes pc = .ok (.aconst_null, 1))  (hp : pc + 1 = pc') (k : OwF p e below D T (mkF m pc' Ls (.null :: r))) : OwF p e below D T (mkF m pc Ls (r)) := by
  subst hp; exact OwF.st (fun _ q => XS.aconstNull X.here C.1 rfl (hb C.2.1 hd)  q) k
theorem ow_iloadN {j : Fin 4} {v : Int32} (C : OwC p Z s m meth c own nm bytes maxL ret) (X : Stand p l e R s m args below meth c T locs cells slots) (hd : decode bytes pc = .ok (.iload_n j, 1)) (hl : Ls[j.val]? = some (.val (.int v))) (hp : pc + 1 = pc') (k : OwF p e below D T (mkF m pc' Ls (.int v :: r))) : OwF p e below D T (mkF m pc Ls (r)) := by
  subst hp; exact OwF.st (fun _ q => XS.iloadN X.here C.1 rfl (hb C.2.1 hd) hl q) k
theorem ow_iload {j : Nat} {v : Int32} (C : OwC p Z s m meth c own nm bytes maxL ret) (X : Stand p l e R s m args below meth c T locs cells slots) (hd : decode bytes pc = .ok (.iload j, 2)) (hl : Ls[j]? = some (.val (.int v))) (hp : pc + 2 = pc') (k : OwF p e below D T (mkF m pc' Ls (.int v :: r))) : OwF p e below D T (mkF m pc Ls (r)) := by
  subst hp; exact OwF.st (fun _ q => XS.iload X.here C.1 rfl (hb C.2.1 hd) hl q) k
theorem ow_lloadN {j : Fin 4} {v : Int64} (C : OwC p Z s m meth c own nm bytes maxL ret) (X : Stand p l e R s m args below meth c T locs cells slots) (hd : decode bytes pc = .ok (.lload_n j, 1)) (hl : Ls[j.val]? = some (.val (.long v))) (hp : pc + 1 = pc') (k : OwF p e below D T (mkF m pc' Ls (.long v :: r))) : OwF p e below D T (mkF m pc Ls (r)) := by
  subst hp; exact OwF.st (fun _ q => XT.lloadN X.here C.1 rfl (hb C.2.1 hd) hl q) k
theorem ow_lload {j : Nat} {v : Int64} (C : OwC p Z s m meth c own nm bytes maxL ret) (X : Stand p l e R s m args below meth c T locs cells slots) (hd : decode bytes pc = .ok (.lload j, 2)) (hl : Ls[j]? = some (.val (.long v))) (hp : pc + 2 = pc') (k : OwF p e below D T (mkF m pc' Ls (.long v :: r))) : OwF p e below D T (mkF m pc Ls (r)) := by
  subst hp; exact OwF.st (fun _ q => XT.lload X.here C.1 rfl (hb C.2.1 hd) hl q) k
theorem ow_aloadN {j : Fin 4} {v : Value} (C : OwC p Z s m meth c own nm bytes maxL ret) (X : Stand p l e R s m args below meth c T locs cells slots) (hd : decode bytes pc = .ok (.aload_n j, 1)) (hl : Ls[j.val]? = some (.val v)) (hv : v.isRef = true) (hp : pc + 1 = pc') (k : OwF p e below D T (mkF m pc' Ls (v :: r))) : OwF p e below D T (mkF m pc Ls (r)) := by
  subst hp; exact OwF.st (fun _ q => XS.aloadN X.here C.1 rfl (hb C.2.1 hd) hl hv q) k
theorem ow_aload {j : Nat} {v : Value} (C : OwC p Z s m meth c own nm bytes maxL ret) (X : Stand p l e R s m args below meth c T locs cells slots) (hd : decode bytes pc = .ok (.aload j, 2)) (hl : Ls[j]? = some (.val v)) (hv : v.isRef = true) (hp : pc + 2 = pc') (k : OwF p e below D T (mkF m pc' Ls (v :: r))) : OwF p e below D T (mkF m pc Ls (r)) := by
  subst hp; exact OwF.st (fun _ q => XS.aload X.here C.1 rfl (hb C.2.1 hd) hl hv q) k
theorem ow_istoreN {j : Fin 4} {v : Int32} (C : OwC p Z s m meth c own nm bytes maxL ret) (X : Stand p l e R s m args below meth c T locs cells slots) (hd : decode bytes pc = .ok (.istore_n j, 1)) (hl : storeLocals Ls j.val (.int v) = some Ls') (hp : pc + 1 = pc') (k : OwF p e below D T (mkF m pc' Ls' (r))) : OwF p e below D T (mkF m pc Ls (.int v :: r)) := by
  subst hp; exact OwF.st (fun _ q => XS.istoreN X.here C.1 rfl (hb C.2.1 hd) rfl hl q) k
theorem ow_istore {j : Nat} {v : Int32} (C : OwC p Z s m meth c own nm bytes maxL ret) (X : Stand p l e R s m args below meth c T locs cells slots) (hd : decode bytes pc = .ok (.istore j, 2)) (hl : storeLocals Ls j (.int v) = some Ls') (hp : pc + 2 = pc') (k : OwF p e below D T (mkF m pc' Ls' (r))) : OwF p e below D T (mkF m pc Ls (.int v :: r)) := by
  subst hp; exact OwF.st (fun _ q => XS.istore X.here C.1 rfl (hb C.2.1 hd) rfl hl q) k
theorem ow_lstoreN {j : Fin 4} {v : Int64} (C : OwC p Z s m meth c own nm bytes maxL ret) (X : Stand p l e R s m args below meth c T locs cells slots) (hd : decode bytes pc = .ok (.lstore_n j, 1)) (hl : storeLocals Ls j.val (.long v) = some Ls') (hp : pc + 1 = pc') (k : OwF p e below D T (mkF m pc' Ls' (r))) : OwF p e below D T (mkF m pc Ls (.long v :: r)) := by
  subst hp; exact OwF.st (fun _ q => XT.lstoreN X.here C.1 rfl (hb C.2.1 hd) rfl hl q) k
theorem ow_lstore {j : Nat} {v : Int64} (C : OwC p Z s m meth c own nm bytes maxL ret) (X : Stand p l e R s m args below meth c T locs cells slots) (hd : decode bytes pc = .ok (.lstore j, 2)) (hl : storeLocals Ls j (.long v) = some Ls') (hp : pc + 2 = pc') (k : OwF p e below D T (mkF m pc' Ls' (r))) : OwF p e below D T (mkF m pc Ls (.long v :: r)) := by
  subst hp; exact OwF.st (fun _ q => XT.lstore X.here C.1 rfl (hb C.2.1 hd) rfl hl q) k
theorem ow_astoreN {j : Fin 4} {v : Value} (C : OwC p Z s m meth c own nm bytes maxL ret) (X : Stand p l e R s m args below meth c T locs cells slots) (hd : decode bytes pc = .ok (.astore_n j, 1)) (hv : v.isRef = true) (hl : storeLocals Ls j.val v = some Ls') (hp : pc + 1 = pc') (k : OwF p e below D T (mkF m pc' Ls' (r))) : OwF p e below D T (mkF m pc Ls (v :: r)) := by
  subst hp; exact OwF.st (fun _ q => XS.astoreN X.here C.1 rfl (hb C.2.1 hd) rfl hv hl q) k
theorem ow_astore {j : Nat} {v : Value} (C : OwC p Z s m meth c own nm bytes maxL ret) (X : Stand p l e R s m args below meth c T locs cells slots) (hd : decode bytes pc = .ok (.astore j, 2)) (hv : v.isRef = true) (hl : storeLocals Ls j v = some Ls') (hp : pc + 2 = pc') (k : OwF p e below D T (mkF m pc' Ls' (r))) : OwF p e below D T (mkF m pc Ls (v :: r)) := by
  subst hp; exact OwF.st (fun _ q => XS.astore X.here C.1 rfl (hb C.2.1 hd) rfl hv hl q) k
theorem ow_iconst {i : Int} (v : Int32) (C : OwC p Z s m meth c own nm bytes maxL ret) (X : Stand p l e R s m args below meth c T locs cells slots) (hd : decode bytes pc = .ok (.iconst i, 1)) (hv : Int32.ofInt i = v) (hp : pc + 1 = pc') (k : OwF p e below D T (mkF m pc' Ls (.int v :: r))) : OwF p e below D T (mkF m pc Ls r) := by
  subst hp; subst hv; exact OwF.st (fun _ q => XS.iconst X.here C.1 rfl (hb C.2.1 hd) q) k
theorem ow_bipush {i : Int} (v : Int32) (C : OwC p Z s m meth c own nm bytes maxL ret) (X : Stand p l e R s m args below meth c T locs cells slots) (hd : decode bytes pc = .ok (.bipush i, 2)) (hv : (Int8.ofInt i).toInt32 = v) (hp : pc + 2 = pc') (k : OwF p e below D T (mkF m pc' Ls (.int v :: r))) : OwF p e below D T (mkF m pc Ls r) := by
  subst hp; subst hv; exact OwF.st (fun _ q => XS.bipush X.here C.1 rfl (hb C.2.1 hd) q) k
theorem ow_sipush {i : Int} (v : Int32) (C : OwC p Z s m meth c own nm bytes maxL ret) (X : Stand p l e R s m args below meth c T locs cells slots) (hd : decode bytes pc = .ok (.sipush i, 3)) (hv : (Int16.ofInt i).toInt32 = v) (hp : pc + 3 = pc') (k : OwF p e below D T (mkF m pc' Ls (.int v :: r))) : OwF p e below D T (mkF m pc Ls r) := by
  subst hp; subst hv; exact OwF.st (fun _ q => XS.sipush X.here C.1 rfl (hb C.2.1 hd) q) k
theorem ow_lconst {i : Fin 2} (v : Int64) (C : OwC p Z s m meth c own nm bytes maxL ret) (X : Stand p l e R s m args below meth c T locs cells slots) (hd : decode bytes pc = .ok (.lconst i, 1)) (hv : Int64.ofNat i = v) (hp : pc + 1 = pc') (k : OwF p e below D T (mkF m pc' Ls (.long v :: r))) : OwF p e below D T (mkF m pc Ls r) := by
  subst hp; subst hv; exact OwF.st (fun _ q => XT.lconst X.here C.1 rfl (hb C.2.1 hd) q) k
theorem ow_iinc {i : Int} {j : Nat} {x : Int32} (v : Int32) (C : OwC p Z s m meth c own nm bytes maxL ret) (X : Stand p l e R s m args below meth c T locs cells slots) (hd : decode bytes pc = .ok (.iinc j i, 3)) (hv : Int32.ofInt i = v) (hl : Ls[j]? = some (.val (.int x))) (hl' : storeLocals Ls j (.int (x + v)) = some Ls') (hp : pc + 3 = pc') (k : OwF p e below D T (mkF m pc' Ls' r)) : OwF p e below D T (mkF m pc Ls r) := by
  subst hp; subst hv; exact OwF.st (fun _ q => XS.iinc X.here C.1 rfl (hb C.2.1 hd) hl hl' q) k
theorem ow_ldc {i : Nat} {v : Int32} (C : OwC p Z s m meth c own nm bytes maxL ret) (X : Stand p l e R s m args below meth c T locs cells slots) (w : (Jvm.Cond.constant own i v).before a0 Z = true) (hd : decode bytes pc = .ok (.ldc i, 2)) (hp : pc + 2 = pc') (k : OwF p e below D T (mkF m pc' Ls (.int v :: r))) : OwF p e below D T (mkF m pc Ls r) := by
  subst hp; exact OwF.st (fun _ q => X.ldcI C.1 C.2.2.2.1 (mvT C.2.2.2.2.2.2.2 w) rfl (hb C.2.1 hd) q) k
theorem ow_ldcW {i : Nat} {v : Int32} (C : OwC p Z s m meth c own nm bytes maxL ret) (X : Stand p l e R s m args below meth c T locs cells slots) (w : (Jvm.Cond.constant own i v).before a0 Z = true) (hd : decode bytes pc = .ok (.ldc_w i, 3)) (hp : pc + 3 = pc') (k : OwF p e below D T (mkF m pc' Ls (.int v :: r))) : OwF p e below D T (mkF m pc Ls r) := by
  subst hp; exact OwF.st (fun _ q => X.ldcWI C.1 C.2.2.2.1 (mvT C.2.2.2.2.2.2.2 w) rfl (hb C.2.1 hd) q) k
theorem ow_ldc2 {i : Nat} {v : Int64} (C : OwC p Z s m meth c own nm bytes maxL ret) (X : Stand p l e R s m args below meth c T locs cells slots) (w : (Jvm.Cond.constantLong own i v).before a0 Z = true) (hd : decode bytes pc = .ok (.ldc2_w i, 3)) (hp : pc + 3 = pc') (k : OwF p e below D T (mkF m pc' Ls (.long v :: r))) : OwF p e below D T (mkF m pc Ls r) := by
  subst hp; exact OwF.st (fun _ q => X.ldc2J C.1 C.2.2.2.1 (mvT C.2.2.2.2.2.2.2 w) rfl (hb C.2.1 hd) q) k
theorem ow_goto {o : Int} (C : OwC p Z s m meth c own nm bytes maxL ret) (X : Stand p l e R s m args below meth c T locs cells slots) (hd : decode bytes pc = .ok (.goto o, 3)) (ho : 0 ≤ (pc : Int) + o) (ht : ((pc : Int) + o).toNat = pcT) (k : OwF p e below D T (mkF m pcT Ls r)) : OwF p e below D T (mkF m pc Ls r) :=
  OwF.st (fun _ q => XS.goto X.here C.1 rfl rfl (hb C.2.1 hd) ho ht q) k
theorem ow_if_eq {x : Int32} {o : Int} (C : OwC p Z s m meth c own nm bytes maxL ret) (X : Stand p l e R s m args below meth c T locs cells slots) (hd : decode bytes pc = .ok (.ifCond .eq o, 3)) (ho : 0 ≤ (pc : Int) + o) (ht : ((pc : Int) + o).toNat = pcT) (hp : pc + 3 = pc') (k1 : x = 0 → OwF p e below D T (mkF m pcT Ls r)) (k2 : ¬ x = 0 → OwF p e below D T (mkF m pc' Ls r)) : OwF p e below D T (mkF m pc Ls (.int x :: r)) := by
  subst hp
  by_cases hq : x = 0
  · exact OwF.st (fun _ q => XS.ifYes X.here C.1 rfl rfl (hb C.2.1 hd) rfl (XT.i0_eq_t hq) ho ht q) (k1 hq)
  · exact OwF.st (fun _ q => XS.ifNo X.here C.1 rfl (hb C.2.1 hd) rfl (XT.i0_eq_f hq) q) (k2 hq)
theorem ow_icmp_eq {x y : Int32} {o : Int} (C : OwC p Z s m meth c own nm bytes maxL ret) (X : Stand p l e R s m args below meth c T locs cells slots) (hd : decode bytes pc = .ok (.if_icmp .eq o, 3)) (ho : 0 ≤ (pc : Int) + o) (ht : ((pc : Int) + o).toNat = pcT) (hp : pc + 3 = pc') (k1 : x = y → OwF p e below D T (mkF m pcT Ls r)) (k2 : ¬ x = y → OwF p e below D T (mkF m pc' Ls r)) : OwF p e below D T (mkF m pc Ls (.int y :: .int x :: r)) := by
  subst hp
  by_cases hq : x = y
  · exact OwF.st (fun _ q => XS.icmpYes X.here C.1 rfl rfl (hb C.2.1 hd) rfl (XT.ii_eq_t hq) ho ht q) (k1 hq)
  · exact OwF.st (fun _ q => XS.icmpNo X.here C.1 rfl (hb C.2.1 hd) rfl (XT.ii_eq_f hq) q) (k2 hq)
theorem ow_lif_eq {x y : Int64} {o : Int} (C : OwC p Z s m meth c own nm bytes maxL ret) (X : Stand p l e R s m args below meth c T locs cells slots) (hd : decode bytes pc = .ok (.ifCond .eq o, 3)) (ho : 0 ≤ (pc : Int) + o) (ht : ((pc : Int) + o).toNat = pcT) (hp : pc + 3 = pc') (k1 : x = y → OwF p e below D T (mkF m pcT Ls r)) (k2 : ¬ x = y → OwF p e below D T (mkF m pc' Ls r)) : OwF p e below D T (mkF m pc Ls (.int (XT.cmpL x y) :: r)) := by
  subst hp
  by_cases hq : x = y
  · exact OwF.st (fun _ q => XS.ifYes X.here C.1 rfl rfl (hb C.2.1 hd) rfl (XT.ll_eq_t hq) ho ht q) (k1 hq)
  · exact OwF.st (fun _ q => XS.ifNo X.here C.1 rfl (hb C.2.1 hd) rfl (XT.ll_eq_f hq) q) (k2 hq)
theorem ow_if_ne {x : Int32} {o : Int} (C : OwC p Z s m meth c own nm bytes maxL ret) (X : Stand p l e R s m args below meth c T locs cells slots) (hd : decode bytes pc = .ok (.ifCond .ne o, 3)) (ho : 0 ≤ (pc : Int) + o) (ht : ((pc : Int) + o).toNat = pcT) (hp : pc + 3 = pc') (k1 : ¬ x = 0 → OwF p e below D T (mkF m pcT Ls r)) (k2 : x = 0 → OwF p e below D T (mkF m pc' Ls r)) : OwF p e below D T (mkF m pc Ls (.int x :: r)) := by
  subst hp
  by_cases hq : x = 0
  · exact OwF.st (fun _ q => XS.ifNo X.here C.1 rfl (hb C.2.1 hd) rfl (XT.i0_ne_f hq) q) (k2 hq)
  · exact OwF.st (fun _ q => XS.ifYes X.here C.1 rfl rfl (hb C.2.1 hd) rfl (XT.i0_ne_t hq) ho ht q) (k1 hq)
theorem ow_icmp_ne {x y : Int32} {o : Int} (C : OwC p Z s m meth c own nm bytes maxL ret) (X : Stand p l e R s m args below meth c T locs cells slots) (hd : decode bytes pc = .ok (.if_icmp .ne o, 3)) (ho : 0 ≤ (pc : Int) + o) (ht : ((pc : Int) + o).toNat = pcT) (hp : pc + 3 = pc') (k1 : ¬ x = y → OwF p e below D T (mkF m pcT Ls r)) (k2 : x = y → OwF p e below D T (mkF m pc' Ls r)) : OwF p e below D T (mkF m pc Ls (.int y :: .int x :: r)) := by
  subst hp
  by_cases hq : x = y
  · exact OwF.st (fun _ q => XS.icmpNo X.here C.1 rfl (hb C.2.1 hd) rfl (XT.ii_ne_f hq) q) (k2 hq)
  · exact OwF.st (fun _ q => XS.icmpYes X.here C.1 rfl rfl (hb C.2.1 hd) rfl (XT.ii_ne_t hq) ho ht q) (k1 hq)
theorem ow_lif_ne {x y : Int64} {o : Int} (C : OwC p Z s m meth c own nm bytes maxL ret) (X : Stand p l e R s m args below meth c T locs cells slots) (hd : decode bytes pc = .ok (.ifCond .ne o, 3)) (ho : 0 ≤ (pc : Int) + o) (ht : ((pc : Int) + o).toNat = pcT) (hp : pc + 3 = pc') (k1 : ¬ x = y → OwF p e below D T (mkF m pcT Ls r)) (k2 : x = y → OwF p e below D T (mkF m pc' Ls r)) : OwF p e below D T (mkF m pc Ls (.int (XT.cmpL x y) :: r)) := by
  subst hp
  by_cases hq : x = y
  · exact OwF.st (fun _ q => XS.ifNo X.here C.1 rfl (hb C.2.1 hd) rfl (XT.ll_ne_f hq) q) (k2 hq)
  · exact OwF.st (fun _ q => XS.ifYes X.here C.1 rfl rfl (hb C.2.1 hd) rfl (XT.ll_ne_t hq) ho ht q) (k1 hq)
theorem ow_if_lt {x : Int32} {o : Int} (C : OwC p Z s m meth c own nm bytes maxL ret) (X : Stand p l e R s m args below meth c T locs cells slots) (hd : decode bytes pc = .ok (.ifCond .lt o, 3)) (ho : 0 ≤ (pc : Int) + o) (ht : ((pc : Int) + o).toNat = pcT) (hp : pc + 3 = pc') (k1 : x < 0 → OwF p e below D T (mkF m pcT Ls r)) (k2 : ¬ x < 0 → OwF p e below D T (mkF m pc' Ls r)) : OwF p e below D T (mkF m pc Ls (.int x :: r)) := by
  subst hp
  by_cases hq : x < 0
  · exact OwF.st (fun _ q => XS.ifYes X.here C.1 rfl rfl (hb C.2.1 hd) rfl (XT.i0_lt_t hq) ho ht q) (k1 hq)
  · exact OwF.st (fun _ q => XS.ifNo X.here C.1 rfl (hb C.2.1 hd) rfl (XT.i0_lt_f hq) q) (k2 hq)
theorem ow_icmp_lt {x y : Int32} {o : Int} (C : OwC p Z s m meth c own nm bytes maxL ret) (X : Stand p l e R s m args below meth c T locs cells slots) (hd : decode bytes pc = .ok (.if_icmp .lt o, 3)) (ho : 0 ≤ (pc : Int) + o) (ht : ((pc : Int) + o).toNat = pcT) (hp : pc + 3 = pc') (k1 : x < y → OwF p e below D T (mkF m pcT Ls r)) (k2 : ¬ x < y → OwF p e below D T (mkF m pc' Ls r)) : OwF p e below D T (mkF m pc Ls (.int y :: .int x :: r)) := by
  subst hp
  by_cases hq : x < y
  · exact OwF.st (fun _ q => XS.icmpYes X.here C.1 rfl rfl (hb C.2.1 hd) rfl (XT.ii_lt_t hq) ho ht q) (k1 hq)
  · exact OwF.st (fun _ q => XS.icmpNo X.here C.1 rfl (hb C.2.1 hd) rfl (XT.ii_lt_f hq) q) (k2 hq)
theorem ow_lif_lt {x y : Int64} {o : Int} (C : OwC p Z s m meth c own nm bytes maxL ret) (X : Stand p l e R s m args below meth c T locs cells slots) (hd : decode bytes pc = .ok (.ifCond .lt o, 3)) (ho : 0 ≤ (pc : Int) + o) (ht : ((pc : Int) + o).toNat = pcT) (hp : pc + 3 = pc') (k1 : x < y → OwF p e below D T (mkF m pcT Ls r)) (k2 : ¬ x < y → OwF p e below D T (mkF m pc' Ls r)) : OwF p e below D T (mkF m pc Ls (.int (XT.cmpL x y) :: r)) := by
  subst hp
  by_cases hq : x < y
  · exact OwF.st (fun _ q => XS.ifYes X.here C.1 rfl rfl (hb C.2.1 hd) rfl (XT.ll_lt_t hq) ho ht q) (k1 hq)
  · exact OwF.st (fun _ q => XS.ifNo X.here C.1 rfl (hb C.2.1 hd) rfl (XT.ll_lt_f hq) q) (k2 hq)
theorem ow_if_ge {x : Int32} {o : Int} (C : OwC p Z s m meth c own nm bytes maxL ret) (X : Stand p l e R s m args below meth c T locs cells slots) (hd : decode bytes pc = .ok (.ifCond .ge o, 3)) (ho : 0 ≤ (pc : Int) + o) (ht : ((pc : Int) + o).toNat = pcT) (hp : pc + 3 = pc') (k1 : ¬ x < 0 → OwF p e below D T (mkF m pcT Ls r)) (k2 : x < 0 → OwF p e below D T (mkF m pc' Ls r)) : OwF p e below D T (mkF m pc Ls (.int x :: r)) := by
  subst hp
  by_cases hq : x < 0
  · exact OwF.st (fun _ q => XS.ifNo X.here C.1 rfl (hb C.2.1 hd) rfl (XT.i0_ge_f hq) q) (k2 hq)
  · exact OwF.st (fun _ q => XS.ifYes X.here C.1 rfl rfl (hb C.2.1 hd) rfl (XT.i0_ge_t hq) ho ht q) (k1 hq)
theorem ow_icmp_ge {x y : Int32} {o : Int} (C : OwC p Z s m meth c own nm bytes maxL ret) (X : Stand p l e R s m args below meth c T locs cells slots) (hd : decode bytes pc = .ok (.if_icmp .ge o, 3)) (ho : 0 ≤ (pc : Int) + o) (ht : ((pc : Int) + o).toNat = pcT) (hp : pc + 3 = pc') (k1 : ¬ x < y → OwF p e below D T (mkF m pcT Ls r)) (k2 : x < y → OwF p e below D T (mkF m pc' Ls r)) : OwF p e below D T (mkF m pc Ls (.int y :: .int x :: r)) := by
  subst hp
  by_cases hq : x < y
  · exact OwF.st (fun _ q => XS.icmpNo X.here C.1 rfl (hb C.2.1 hd) rfl (XT.ii_ge_f hq) q) (k2 hq)
  · exact OwF.st (fun _ q => XS.icmpYes X.here C.1 rfl rfl (hb C.2.1 hd) rfl (XT.ii_ge_t hq) ho ht q) (k1 hq)
theorem ow_lif_ge {x y : Int64} {o : Int} (C : OwC p Z s m meth c own nm bytes maxL ret) (X : Stand p l e R s m args below meth c T locs cells slots) (hd : decode bytes pc = .ok (.ifCond .ge o, 3)) (ho : 0 ≤ (pc : Int) + o) (ht : ((pc : Int) + o).toNat = pcT) (hp : pc + 3 = pc') (k1 : ¬ x < y → OwF p e below D T (mkF m pcT Ls r)) (k2 : x < y → OwF p e below D T (mkF m pc' Ls r)) : OwF p e below D T (mkF m pc Ls (.int (XT.cmpL x y) :: r)) := by
  subst hp
  by_cases hq : x < y
  · exact OwF.st (fun _ q => XS.ifNo X.here C.1 rfl (hb C.2.1 hd) rfl (XT.ll_ge_f hq) q) (k2 hq)
  · exact OwF.st (fun _ q => XS.ifYes X.here C.1 rfl rfl (hb C.2.1 hd) rfl (XT.ll_ge_t hq) ho ht q) (k1 hq)
theorem ow_if_gt {x : Int32} {o : Int} (C : OwC p Z s m meth c own nm bytes maxL ret) (X : Stand p l e R s m args below meth c T locs cells slots) (hd : decode bytes pc = .ok (.ifCond .gt o, 3)) (ho : 0 ≤ (pc : Int) + o) (ht : ((pc : Int) + o).toNat = pcT) (hp : pc + 3 = pc') (k1 : 0 < x → OwF p e below D T (mkF m pcT Ls r)) (k2 : ¬ 0 < x → OwF p e below D T (mkF m pc' Ls r)) : OwF p e below D T (mkF m pc Ls (.int x :: r)) := by
  subst hp
  by_cases hq : 0 < x
  · exact OwF.st (fun _ q => XS.ifYes X.here C.1 rfl rfl (hb C.2.1 hd) rfl (XT.i0_gt_t hq) ho ht q) (k1 hq)
  · exact OwF.st (fun _ q => XS.ifNo X.here C.1 rfl (hb C.2.1 hd) rfl (XT.i0_gt_f hq) q) (k2 hq)
theorem ow_icmp_gt {x y : Int32} {o : Int} (C : OwC p Z s m meth c own nm bytes maxL ret) (X : Stand p l e R s m args below meth c T locs cells slots) (hd : decode bytes pc = .ok (.if_icmp .gt o, 3)) (ho : 0 ≤ (pc : Int) + o) (ht : ((pc : Int) + o).toNat = pcT) (hp : pc + 3 = pc') (k1 : y < x → OwF p e below D T (mkF m pcT Ls r)) (k2 : ¬ y < x → OwF p e below D T (mkF m pc' Ls r)) : OwF p e below D T (mkF m pc Ls (.int y :: .int x :: r)) := by
  subst hp
  by_cases hq : y < x
  · exact OwF.st (fun _ q => XS.icmpYes X.here C.1 rfl rfl (hb C.2.1 hd) rfl (XT.ii_gt_t hq) ho ht q) (k1 hq)
  · exact OwF.st (fun _ q => XS.icmpNo X.here C.1 rfl (hb C.2.1 hd) rfl (XT.ii_gt_f hq) q) (k2 hq)
theorem ow_lif_gt {x y : Int64} {o : Int} (C : OwC p Z s m meth c own nm bytes maxL ret) (X : Stand p l e R s m args below meth c T locs cells slots) (hd : decode bytes pc = .ok (.ifCond .gt o, 3)) (ho : 0 ≤ (pc : Int) + o) (ht : ((pc : Int) + o).toNat = pcT) (hp : pc + 3 = pc') (k1 : y < x → OwF p e below D T (mkF m pcT Ls r)) (k2 : ¬ y < x → OwF p e below D T (mkF m pc' Ls r)) : OwF p e below D T (mkF m pc Ls (.int (XT.cmpL x y) :: r)) := by
  subst hp
  by_cases hq : y < x
  · exact OwF.st (fun _ q => XS.ifYes X.here C.1 rfl rfl (hb C.2.1 hd) rfl (XT.ll_gt_t hq) ho ht q) (k1 hq)
  · exact OwF.st (fun _ q => XS.ifNo X.here C.1 rfl (hb C.2.1 hd) rfl (XT.ll_gt_f hq) q) (k2 hq)
theorem ow_if_le {x : Int32} {o : Int} (C : OwC p Z s m meth c own nm bytes maxL ret) (X : Stand p l e R s m args below meth c T locs cells slots) (hd : decode bytes pc = .ok (.ifCond .le o, 3)) (ho : 0 ≤ (pc : Int) + o) (ht : ((pc : Int) + o).toNat = pcT) (hp : pc + 3 = pc') (k1 : ¬ 0 < x → OwF p e below D T (mkF m pcT Ls r)) (k2 : 0 < x → OwF p e below D T (mkF m pc' Ls r)) : OwF p e below D T (mkF m pc Ls (.int x :: r)) := by
  subst hp
  by_cases hq : 0 < x
  · exact OwF.st (fun _ q => XS.ifNo X.here C.1 rfl (hb C.2.1 hd) rfl (XT.i0_le_f hq) q) (k2 hq)
  · exact OwF.st (fun _ q => XS.ifYes X.here C.1 rfl rfl (hb C.2.1 hd) rfl (XT.i0_le_t hq) ho ht q) (k1 hq)
theorem ow_icmp_le {x y : Int32} {o : Int} (C : OwC p Z s m meth c own nm bytes maxL ret) (X : Stand p l e R s m args below meth c T locs cells slots) (hd : decode bytes pc = .ok (.if_icmp .le o, 3)) (ho : 0 ≤ (pc : Int) + o) (ht : ((pc : Int) + o).toNat = pcT) (hp : pc + 3 = pc') (k1 : ¬ y < x → OwF p e below D T (mkF m pcT Ls r)) (k2 : y < x → OwF p e below D T (mkF m pc' Ls r)) : OwF p e below D T (mkF m pc Ls (.int y :: .int x :: r)) := by
  subst hp
  by_cases hq : y < x
  · exact OwF.st (fun _ q => XS.icmpNo X.here C.1 rfl (hb C.2.1 hd) rfl (XT.ii_le_f hq) q) (k2 hq)
  · exact OwF.st (fun _ q => XS.icmpYes X.here C.1 rfl rfl (hb C.2.1 hd) rfl (XT.ii_le_t hq) ho ht q) (k1 hq)
theorem ow_lif_le {x y : Int64} {o : Int} (C : OwC p Z s m meth c own nm bytes maxL ret) (X : Stand p l e R s m args below meth c T locs cells slots) (hd : decode bytes pc = .ok (.ifCond .le o, 3)) (ho : 0 ≤ (pc : Int) + o) (ht : ((pc : Int) + o).toNat = pcT) (hp : pc + 3 = pc') (k1 : ¬ y < x → OwF p e below D T (mkF m pcT Ls r)) (k2 : y < x → OwF p e below D T (mkF m pc' Ls r)) : OwF p e below D T (mkF m pc Ls (.int (XT.cmpL x y) :: r)) := by
  subst hp
  by_cases hq : y < x
  · exact OwF.st (fun _ q => XS.ifNo X.here C.1 rfl (hb C.2.1 hd) rfl (XT.ll_le_f hq) q) (k2 hq)
  · exact OwF.st (fun _ q => XS.ifYes X.here C.1 rfl rfl (hb C.2.1 hd) rfl (XT.ll_le_t hq) ho ht q) (k1 hq)
end OwnSteps
section OwnObj
variable {p : Program} {l : Launch} {e : Env} {R : Room} {s : State} {m : MethodId} {args : Array Value} {below : List Frame} {meth : Method} {c : Code} {T : State} {locs : List Loc} {cells slots : Nat} {Z : State} {a0 : Array Value} {h : Heap}
variable {own nm : String} {bytes : ByteArray} {maxL : Nat} {ret : Option FieldType} {D : State → Outcome → Prop} {pc pc' pcT : Nat} {Ls Ls' : Array Slot} {r : List Value}
/-- what lies on a stack, in words -/
abbrev owCat (r : List Value) : Nat := (r.map fun v => v.category).sum
theorem ow_getF {O n d : String} {index : Nat} {a : Addr} {v : Value} (C : OwC p Z s m meth c own nm bytes maxL ret) (X : Stand p l e R s m args below meth c T locs cells slots) (eT : T.heap = h) (w : (Jvm.Cond.fieldLink own index O n d).before a0 Z = true) (F : Fld Z h a O n d v)
    (hd : decode bytes pc = .ok (.getfield index, 3)) (hp : pc + 3 = pc') (k : ∀ T', Stand p l e R s m args below meth c T' locs cells slots → T'.heap = h → OwF p e below D T' (mkF m pc' Ls (v :: r))) : OwF p e below D T (mkF m pc Ls (.ref a :: r)) := by
  subst hp
  obtain ⟨T', X', e', st⟩ := getF X C.1 C.2.2.2.2.2.2.2 C.2.2.2.1 (host := "") (Or.inl w) Via.refl eT F (g := mkF m pc Ls (.ref a :: r)) rfl rfl (hb C.2.1 hd)
  exact OwF.st st (k T' X' e')
theorem ow_putF {O n d K : String} {index kk : Nat} {ty : FieldType} {a : Addr} {v old : Value} (C : OwC p Z s m meth c own nm bytes maxL ret) (X : Stand p l e R s m args below meth c T locs cells slots) (eT : T.heap = h) (w : (Jvm.Cond.fieldLink own index O n d).before a0 Z = true) (F : Fld Z h a O n d old) (E : Exa Z h a K)
    (L : (Jvm.Cond.lays K O n d).before a0 Z = true ∨ ((Jvm.Cond.laysFinal K O n d).before a0 Z = true ∧ own = O ∧ nm = "<init>")) (wi : (Jvm.Cond.instantiable K kk).before a0 Z = true) (hty : parseFieldDescriptor d = some ty) (hn : narrow ty v = v) (hf : fits ty v = true)
    (hd : decode bytes pc = .ok (.putfield index, 3)) (hp : pc + 3 = pc')
    (k : ∀ T' h', Stand p l e R s m args below meth c T' (locs ++ [⟨a, Jvm.RoadKit.slotOf Z O n d⟩]) cells slots → T'.heap = h' → Wr h h' a (Jvm.RoadKit.slotOf Z O n d) v → OwF p e below D T' (mkF m pc' Ls r)) : OwF p e below D T (mkF m pc Ls (v :: .ref a :: r)) := by
  subst hp
  obtain ⟨T', h', X', e', W', st⟩ := putF X C.1 C.2.2.2.2.2.2.2 C.2.2.2.1 (host := "") (Or.inl w) Via.refl eT F E (L.imp id fun q => ⟨q.1, q.2.1, C.2.2.2.2.1.trans q.2.2⟩) wi hty hn hf (g := mkF m pc Ls (v :: .ref a :: r)) rfl rfl (hb C.2.1 hd)
  exact OwF.st st (k T' h' X' e' W')
theorem ow_getS {O n d : String} {index : Nat} {v : Value} (C : OwC p Z s m meth c own nm bytes maxL ret) (X : Stand p l e R s m args below meth c T locs cells slots) (eT : T.heap = h) (w : (Jvm.Cond.fieldLink own index O n d).before a0 Z = true) (F : Sta Z h O n d v)
    (hd : decode bytes pc = .ok (.getstatic index, 3)) (hp : pc + 3 = pc') (k : ∀ T', Stand p l e R s m args below meth c T' locs cells slots → T'.heap = h → OwF p e below D T' (mkF m pc' Ls (v :: r))) : OwF p e below D T (mkF m pc Ls r) := by
  subst hp
  obtain ⟨T', X', e', st⟩ := getS X C.1 C.2.2.2.2.2.2.2 C.2.2.2.1 (host := "") w Via.refl eT F (g := mkF m pc Ls r) rfl (hb C.2.1 hd)
  exact OwF.st st (k T' X' e')
theorem ow_new {K : String} {index n : Nat} (C : OwC p Z s m meth c own nm bytes maxL ret) (X : Stand p l e R s m args below meth c T locs cells slots) (eT : T.heap = h) (w : (Jvm.Cond.classLink own index K).before a0 Z = true) (wi : (Jvm.Cond.instantiable K n).before a0 Z = true) (wz : (Jvm.Cond.initialized K).before a0 Z = true)
    (hd : decode bytes pc = .ok (.new index, 3)) (hc : cells + 1 ≤ R.cells) (hl : slots + n ≤ R.slots) (hp : pc + 3 = pc')
    (k : ∀ T' h' a, a = h.size → Stand p l e R s m args below meth c T' locs (cells + 1) (slots + n) → T'.heap = h' → Ext h h' → Exa Z h' a K → (∀ {O nm d : String} {ty : FieldType}, Laid Z a0 K O nm d → parseFieldDescriptor d = some ty → Fld Z h' a O nm d (defaultValue ty)) → OwF p e below D T' (mkF m pc' Ls (.ref a :: r))) : OwF p e below D T (mkF m pc Ls r) := by
  subst hp
  obtain ⟨T', h', X', e', E', A', D', -, st⟩ := newO X C.1 C.2.2.2.2.2.2.2 C.2.2.2.1 w wi wz eT (g := mkF m pc Ls r) rfl (hb C.2.1 hd) hc hl
  exact OwF.st st (k T' h' _ rfl X' e' E' A' D')
theorem ow_initO {index : Nat} {a : Addr} (C : OwC p Z s m meth c own nm bytes maxL ret) (X : Stand p l e R s m args below meth c T locs cells slots) (eT : T.heap = h) (w1 : (Jvm.Cond.methodLink own index Lib.objectInit).before a0 Z = true) (w2 : (Jvm.Cond.instanceMethod Lib.objectInit).before a0 Z = true)
    (w3 : (Jvm.Cond.code Lib.objectInit ⟨#[0xb1]⟩ 1 none).before a0 Z = true) (hsz : Ls.size = maxL) (hd : decode bytes pc = .ok (.invokespecial index, 3)) (hf : 1 ≤ R.frames) (hl : owCat r + 12 ≤ R.locals) (hp : pc + 3 = pc')
    (k : ∀ T', Stand p l e R s m args below meth c T' locs cells slots → T'.heap = h → OwF p e below D T' (mkF m pc' Ls r)) : OwF p e below D T (mkF m pc Ls (.ref a :: r)) := by
  subst hp
  obtain ⟨T', X', e', st⟩ := initO X C.1 C.2.2.2.2.2.2.2 C.2.2.2.1 w1 w2 w3 eT (g := mkF m pc Ls (.ref a :: r)) rfl (by rw [C.2.2.1]; exact hsz) rfl (hb C.2.1 hd) hf (W := owCat r) (by show 2 * 0 + owCat r ≤ owCat r; omega) hl
  exact OwF.st st (k T' X' e')
/-- a static method by its contract -/
theorem ow_callS {index : Nat} {y : MethodName} {by' : ByteArray} {mx : Nat} {rt : Option FieldType} {rm : Room} {Q : Option Value → Heap → List Loc → Prop} {stk argsL rest : List Value} {ps : List FieldType} {pr : Option FieldType}
    (C : OwC p Z s m meth c own nm bytes maxL ret) (X : Stand p l e R s m args below meth c T locs cells slots) (eT : T.heap = h)
    (w1 : (Jvm.Cond.methodLink own index y).before a0 Z = true) (w2 : (Jvm.Cond.static y).before a0 Z = true) (w3 : (Jvm.Cond.initialized y.cls).before a0 Z = true) (w4 : (Jvm.Cond.code y by' mx rt).before a0 Z = true) (hy : y.cls ≠ "java/lang/invoke/MethodHandle" ∧ y.cls ≠ "java/lang/invoke/VarHandle")
    (M : OwCon l y by' mx rt rm Z argsL.toArray h Q) (hds : parseMethodDescriptor y.desc = some ⟨ps, pr⟩) (hln : argsL.length = ps.length) (hst : stk = argsL.reverse ++ rest) (hsz : Ls.size = maxL)
    (hd : decode bytes pc = .ok (.invokestatic index, 3)) (hfr : rm.frames + 1 ≤ R.frames) (hlo : owCat rest + (mx + 11) + rm.locals ≤ R.locals) (hcl : cells + rm.cells ≤ R.cells) (hsl : slots + rm.slots ≤ R.slots) (hp : pc + 3 = pc')
    (k : ∀ T' v L, Stand p l e R s m args below meth c T' (locs ++ L) (cells + rm.cells) (slots + rm.slots) → Q v T'.heap L → OwF p e below D T' (mkF m pc' Ls (v.toList ++ rest))) : OwF p e below D T (mkF m pc Ls stk) := by
  subst hp; subst hst
  have hZ := C.2.2.2.2.2.2.2
  obtain ⟨v, _, ⟨T', L', k', n'⟩, -, X', ⟨Lc, hQ, l', y', z'⟩, st⟩ := Jvm.LawKit.callS X C.1 (y := y) C.2.2.2.1 (mvT hZ w1) (mvT hZ w2) (mvT hZ w3) (mvT hZ w4) hy (backOf (W := owCat rest) (M []) hZ w4 w3 hfr hlo) (g := mkF m pc Ls (argsL.reverse ++ rest)) rfl (by rw [C.2.2.1]; exact hsz) (argsL := argsL) (rest := rest) (lenOf hds hln) rfl (by show 2 * 0 + owCat rest ≤ owCat rest; omega) (hb C.2.1 hd) (fun _ _ => ⟨rfl, eT, hcl, hsl⟩)
  dsimp only [Pt.U, Pt.locs, Pt.cells, Pt.slots] at X' l' y' z' st hQ
  subst l' y' z'
  exact OwF.st st (k T' v Lc X' hQ)
/-- a constructor by its contract -/
theorem ow_callN {index : Nat} {y : MethodName} {by' : ByteArray} {mx : Nat} {rm : Room} {Q : Option Value → Heap → List Loc → Prop} {stk argsL rest : List Value} {ps : List FieldType} {pr : Option FieldType} {a : Addr}
    (C : OwC p Z s m meth c own nm bytes maxL ret) (X : Stand p l e R s m args below meth c T locs cells slots) (eT : T.heap = h) (hni : y.name = "<init>")
    (w1 : (Jvm.Cond.methodLink own index y).before a0 Z = true) (w2 : (Jvm.Cond.instanceMethod y).before a0 Z = true) (w3 : (Jvm.Cond.initialized y.cls).before a0 Z = true) (w4 : (Jvm.Cond.code y by' mx none).before a0 Z = true) (hy : y.cls ≠ "java/lang/invoke/MethodHandle" ∧ y.cls ≠ "java/lang/invoke/VarHandle")
    (M : OwCon l y by' mx none rm Z (.ref a :: argsL).toArray h Q) (hds : parseMethodDescriptor y.desc = some ⟨ps, pr⟩) (hln : argsL.length = ps.length) (hst : stk = argsL.reverse ++ .ref a :: rest) (hsz : Ls.size = maxL)
    (hd : decode bytes pc = .ok (.invokespecial index, 3)) (hfr : rm.frames + 1 ≤ R.frames) (hlo : owCat rest + (mx + 11) + rm.locals ≤ R.locals) (hcl : cells + rm.cells ≤ R.cells) (hsl : slots + rm.slots ≤ R.slots) (hp : pc + 3 = pc')
    (k : ∀ T' v L, Stand p l e R s m args below meth c T' (locs ++ L) (cells + rm.cells) (slots + rm.slots) → Q v T'.heap L → OwF p e below D T' (mkF m pc' Ls (v.toList ++ rest))) : OwF p e below D T (mkF m pc Ls stk) := by
  subst hp; subst hst
  have hZ := C.2.2.2.2.2.2.2
  obtain ⟨v, _, ⟨T', L', k', n'⟩, -, X', ⟨Lc, hQ, l', y', z'⟩, st⟩ := X.specialBack C.1 (y := y) hni C.2.2.2.1 (mvT hZ w1) (mvT hZ w2) (mvT hZ w4) hy (backOf (W := owCat rest) (M []) hZ w4 w3 hfr hlo) (g := mkF m pc Ls (argsL.reverse ++ .ref a :: rest)) rfl (by rw [C.2.2.1]; exact hsz) (Steps.refl _) (a := a) (argsL := argsL) (rest := rest) (lenOf hds hln) rfl (by show 2 * 0 + owCat rest ≤ owCat rest; omega) (hb C.2.1 hd) (fun _ _ => ⟨rfl, eT, hcl, hsl⟩)
  dsimp only [Pt.U, Pt.locs, Pt.cells, Pt.slots] at X' l' y' z' st hQ
  subst l' y' z'
  exact OwF.st (fun _ q => st.trans q) (k T' v Lc X' hQ)
/-- an instance method by its contract -/
theorem ow_callV {K : String} {index : Nat} {y : MethodName} {by' : ByteArray} {mx : Nat} {rt : Option FieldType} {rm : Room} {Q : Option Value → Heap → List Loc → Prop} {stk argsL rest : List Value} {ps : List FieldType} {pr : Option FieldType} {a : Addr}
    (C : OwC p Z s m meth c own nm bytes maxL ret) (X : Stand p l e R s m args below meth c T locs cells slots) (eT : T.heap = h)
    (w1 : (Jvm.Cond.methodLink own index y).before a0 Z = true) (w2 : (Jvm.Cond.declares y).before a0 Z = true) (w5 : (Jvm.Cond.selects K y y).before a0 Z = true) (hK : K = y.cls) (w6 : (Jvm.Cond.instanceMethod y).before a0 Z = true) (w3 : (Jvm.Cond.initialized y.cls).before a0 Z = true) (w4 : (Jvm.Cond.code y by' mx rt).before a0 Z = true)
    (hy : y.cls ≠ "java/lang/invoke/MethodHandle" ∧ y.cls ≠ "java/lang/invoke/VarHandle") (E : Exa Z h a K)
    (M : OwCon l y by' mx rt rm Z (.ref a :: argsL).toArray h Q) (hds : parseMethodDescriptor y.desc = some ⟨ps, pr⟩) (hln : argsL.length = ps.length) (hst : stk = argsL.reverse ++ .ref a :: rest) (hsz : Ls.size = maxL)
    (hd : decode bytes pc = .ok (.invokevirtual index, 3)) (hfr : rm.frames + 1 ≤ R.frames) (hlo : owCat rest + (mx + 11) + rm.locals ≤ R.locals) (hcl : cells + rm.cells ≤ R.cells) (hsl : slots + rm.slots ≤ R.slots) (hp : pc + 3 = pc')
    (k : ∀ T' v L, Stand p l e R s m args below meth c T' (locs ++ L) (cells + rm.cells) (slots + rm.slots) → Q v T'.heap L → OwF p e below D T' (mkF m pc' Ls (v.toList ++ rest))) : OwF p e below D T (mkF m pc Ls stk) := by
  subst hp; subst hst; subst hK
  have hZ := C.2.2.2.2.2.2.2
  obtain ⟨cq, kq, q1, q2, q3⟩ := isOf hZ eT E
  obtain ⟨v, _, ⟨T', L', k', n'⟩, -, X', ⟨Lc, hQ, l', y', z'⟩, st⟩ := X.virtualBack C.1 (y := y) (z := y) C.2.2.2.1 (mvT hZ w1) (mvT hZ w2) (notFace_of_selects (args := #[]) (mvT hZ w5)) (mvT hZ w5) (mvT hZ w6) hy (backOf (W := owCat rest) (M []) hZ w4 w3 hfr hlo) q1 q3 (g := mkF m pc Ls (argsL.reverse ++ .ref a :: rest)) rfl (by rw [C.2.2.1]; exact hsz) (Steps.refl _) (argsL := argsL) (rest := rest) (lenOf hds hln) rfl (by show 2 * 0 + owCat rest ≤ owCat rest; omega) (hb C.2.1 hd) (fun _ _ => ⟨rfl, eT, hcl, hsl⟩)
  dsimp only [Pt.U, Pt.locs, Pt.cells, Pt.slots] at X' l' y' z' st hQ
  subst l' y' z'
  exact OwF.st (fun _ q => st.trans q) (k T' v Lc X' hQ)
/-- a pure answer: the value, nothing written, the heap as it was -/
abbrev OwP (v : Option Value) (h : Heap) (v' : Option Value) (h' : Heap) (L : List Loc) : Prop := v' = v ∧ L = [] ∧ h' = h
/-- a pure static method -/
theorem ow_callSP {index : Nat} {y : MethodName} {by' : ByteArray} {mx : Nat} {rt : Option FieldType} {rm : Room} {v : Value} {stk argsL rest : List Value} {ps : List FieldType} {pr : Option FieldType}
    (C : OwC p Z s m meth c own nm bytes maxL ret) (X : Stand p l e R s m args below meth c T locs cells slots) (eT : T.heap = h)
    (w1 : (Jvm.Cond.methodLink own index y).before a0 Z = true) (w2 : (Jvm.Cond.static y).before a0 Z = true) (w3 : (Jvm.Cond.initialized y.cls).before a0 Z = true) (w4 : (Jvm.Cond.code y by' mx rt).before a0 Z = true) (hy : y.cls ≠ "java/lang/invoke/MethodHandle" ∧ y.cls ≠ "java/lang/invoke/VarHandle")
    (M : OwCon l y by' mx rt rm Z argsL.toArray h (OwP (some v) h)) (hrm : rm.cells = 0 ∧ rm.slots = 0) (hds : parseMethodDescriptor y.desc = some ⟨ps, pr⟩) (hln : argsL.length = ps.length) (hst : stk = argsL.reverse ++ rest) (hsz : Ls.size = maxL)
    (hd : decode bytes pc = .ok (.invokestatic index, 3)) (hfr : rm.frames + 1 ≤ R.frames) (hlo : owCat rest + (mx + 11) + rm.locals ≤ R.locals) (hcl : cells ≤ R.cells) (hsl : slots ≤ R.slots) (hp : pc + 3 = pc')
    (k : ∀ T', Stand p l e R s m args below meth c T' locs cells slots → T'.heap = h → OwF p e below D T' (mkF m pc' Ls (v :: rest))) : OwF p e below D T (mkF m pc Ls stk) := by
  refine ow_callS C X eT w1 w2 w3 w4 hy M hds hln hst hsz hd hfr hlo (by rw [hrm.1]; exact hcl) (by rw [hrm.2]; exact hsl) hp fun T' v' L' X' hQ => ?_
  obtain ⟨rfl, rfl, hh⟩ := hQ
  rw [hrm.1, hrm.2, List.append_nil] at X'
  exact k T' X' hh
/-- a pure instance method -/
theorem ow_callVP {K : String} {index : Nat} {y : MethodName} {by' : ByteArray} {mx : Nat} {rt : Option FieldType} {rm : Room} {v : Value} {stk argsL rest : List Value} {ps : List FieldType} {pr : Option FieldType} {a : Addr}
    (C : OwC p Z s m meth c own nm bytes maxL ret) (X : Stand p l e R s m args below meth c T locs cells slots) (eT : T.heap = h)
    (w1 : (Jvm.Cond.methodLink own index y).before a0 Z = true) (w2 : (Jvm.Cond.declares y).before a0 Z = true) (w5 : (Jvm.Cond.selects K y y).before a0 Z = true) (hK : K = y.cls) (w6 : (Jvm.Cond.instanceMethod y).before a0 Z = true) (w3 : (Jvm.Cond.initialized y.cls).before a0 Z = true) (w4 : (Jvm.Cond.code y by' mx rt).before a0 Z = true)
    (hy : y.cls ≠ "java/lang/invoke/MethodHandle" ∧ y.cls ≠ "java/lang/invoke/VarHandle") (E : Exa Z h a K)
    (M : OwCon l y by' mx rt rm Z (.ref a :: argsL).toArray h (OwP (some v) h)) (hrm : rm.cells = 0 ∧ rm.slots = 0) (hds : parseMethodDescriptor y.desc = some ⟨ps, pr⟩) (hln : argsL.length = ps.length) (hst : stk = argsL.reverse ++ .ref a :: rest) (hsz : Ls.size = maxL)
    (hd : decode bytes pc = .ok (.invokevirtual index, 3)) (hfr : rm.frames + 1 ≤ R.frames) (hlo : owCat rest + (mx + 11) + rm.locals ≤ R.locals) (hcl : cells ≤ R.cells) (hsl : slots ≤ R.slots) (hp : pc + 3 = pc')
    (k : ∀ T', Stand p l e R s m args below meth c T' locs cells slots → T'.heap = h → OwF p e below D T' (mkF m pc' Ls (v :: rest))) : OwF p e below D T (mkF m pc Ls stk) := by
  refine ow_callV C X eT w1 w2 w5 hK w6 w3 w4 hy E M hds hln hst hsz hd hfr hlo (by rw [hrm.1]; exact hcl) (by rw [hrm.2]; exact hsl) hp fun T' v' L' X' hQ => ?_
  obtain ⟨rfl, rfl, hh⟩ := hQ
  rw [hrm.1, hrm.2, List.append_nil] at X'
  exact k T' X' hh
/-- a constructor that leaves all as it is -/
theorem ow_callNP {index : Nat} {y : MethodName} {by' : ByteArray} {mx : Nat} {rm : Room} {stk argsL rest : List Value} {ps : List FieldType} {pr : Option FieldType} {a : Addr}
    (C : OwC p Z s m meth c own nm bytes maxL ret) (X : Stand p l e R s m args below meth c T locs cells slots) (eT : T.heap = h) (hni : y.name = "<init>")
    (w1 : (Jvm.Cond.methodLink own index y).before a0 Z = true) (w2 : (Jvm.Cond.instanceMethod y).before a0 Z = true) (w3 : (Jvm.Cond.initialized y.cls).before a0 Z = true) (w4 : (Jvm.Cond.code y by' mx none).before a0 Z = true) (hy : y.cls ≠ "java/lang/invoke/MethodHandle" ∧ y.cls ≠ "java/lang/invoke/VarHandle")
    (M : OwCon l y by' mx none rm Z (.ref a :: argsL).toArray h (OwP none h)) (hrm : rm.cells = 0 ∧ rm.slots = 0) (hds : parseMethodDescriptor y.desc = some ⟨ps, pr⟩) (hln : argsL.length = ps.length) (hst : stk = argsL.reverse ++ .ref a :: rest) (hsz : Ls.size = maxL)
    (hd : decode bytes pc = .ok (.invokespecial index, 3)) (hfr : rm.frames + 1 ≤ R.frames) (hlo : owCat rest + (mx + 11) + rm.locals ≤ R.locals) (hcl : cells ≤ R.cells) (hsl : slots ≤ R.slots) (hp : pc + 3 = pc')
    (k : ∀ T', Stand p l e R s m args below meth c T' locs cells slots → T'.heap = h → OwF p e below D T' (mkF m pc' Ls rest)) : OwF p e below D T (mkF m pc Ls stk) := by
  refine ow_callN C X eT hni w1 w2 w3 w4 hy M hds hln hst hsz hd hfr hlo (by rw [hrm.1]; exact hcl) (by rw [hrm.2]; exact hsl) hp fun T' v' L' X' hQ => ?_
  obtain ⟨rfl, rfl, hh⟩ := hQ
  rw [hrm.1, hrm.2, List.append_nil] at X'
  exact k T' X' hh
end OwnObj
section OwnArr
variable {p : Program} {l : Launch} {e : Env} {R : Room} {s : State} {m : MethodId} {args : Array Value} {below : List Frame} {meth : Method} {c : Code} {T : State} {locs : List Loc} {cells slots : Nat} {Z : State} {a0 : Array Value} {h h' : Heap}
variable {own nm : String} {bytes : ByteArray} {maxL : Nat} {ret : Option FieldType} {D : State → Outcome → Prop} {pc pc' pcT : Nat} {Ls Ls' : Array Slot} {r : List Value}
variable {a b : Addr} {ty : FieldType} {n i : Nat} {f g : Nat → Value} {v : Value} {sl : Nat} {ws : List Addr} {K : String} {kk : Nat}
/-- an array of n places, place j holds f j -/
def OwA (Z : State) (h : Heap) (a : Addr) (ty : FieldType) (n : Nat) (f : Nat → Value) : Prop := ∃ c : Cell, Arr Z h a c ty ∧ c.slots.size = n ∧ ∀ j, j < n → c.slots[j]? = some (f j)
theorem OwA.lt (A : OwA Z h a ty n f) : a < h.size := by obtain ⟨c, A, -⟩ := A; exact A.lt
theorem OwA.ext (A : OwA Z h a ty n f) (E : Ext h h') : OwA Z h' a ty n f := by obtain ⟨c, A, r⟩ := A; exact ⟨c, A.ext E, r⟩
theorem OwA.other (A : OwA Z h b ty n f) (W : Wr h h' a sl v) (q : b ≠ a) : OwA Z h' b ty n f := by obtain ⟨c, A, r⟩ := A; exact ⟨c, A.other W q, r⟩
theorem OwA.keep (A : OwA Z h a ty n f) (K : Keep h h' ws) (q : a ∉ ws) : OwA Z h' a ty n f := by obtain ⟨c, A, r⟩ := A; exact ⟨c, ⟨K.2.1 a c A.1 q, A.2⟩, r⟩
theorem OwA.congr (A : OwA Z h a ty n f) (q : ∀ j, j < n → f j = g j) : OwA Z h a ty n g := by obtain ⟨c, A, S, H⟩ := A; exact ⟨c, A, S, fun j hj => by rw [← q j hj]; exact H j hj⟩
theorem OwA.set (A : OwA Z h a ty n f) (W : Wr h h' a i v) : OwA Z h' a ty n (fun j => if j = i then v else f j) := by
  obtain ⟨c, A, S, H⟩ := A
  refine ⟨c.setSlot i v, A.same W, by rw [sz_set]; exact S, fun j hj => ?_⟩
  show (c.slots.setIfInBounds i v)[j]? = some (if j = i then v else f j)
  by_cases q : j = i
  · subst q
    rw [if_pos rfl, Array.getElem?_setIfInBounds_self_of_lt (by omega)]
  · rw [if_neg q, Array.getElem?_setIfInBounds_ne (fun w => q w.symm)]; exact H j hj
theorem OwA.new {k : ClassId} {z : Int32} (A : Arr Z h a (newA k ty z) ty) : OwA Z h a ty z.toNatClampNeg (fun _ => defaultValue ty) := by
  refine ⟨_, A, sz_new _ _ _, fun j hj => ?_⟩
  show (Array.replicate z.toNatClampNeg (defaultValue ty))[j]? = _
  rw [Array.getElem?_replicate, if_pos hj]
theorem OwA.ne (A : OwA Z h b ty n f) (E : Exa Z h a K) (wi : (Jvm.Cond.instantiable K kk).before a0 Z = true) : a ≠ b := by obtain ⟨c, A, -⟩ := A; exact ne_arr E wi A
theorem ow_newarr {aty : ArrayType} {z : Int32} {N cap : Nat} (C : OwC p Z s m meth c own nm bytes maxL ret) (X : Stand p l e R s m args below meth c T locs cells slots) (eT : T.heap = h) (w : (Jvm.Cond.arrayClass (newarray.typeOf aty)).before a0 Z = true) (hd : decode bytes pc = .ok (.newarray aty, 2))
    (hn : ¬ z < 0) (hN : z.toNatClampNeg = N) (hcap : N ≤ cap) (hb8 : cap * 8 ≤ 536870912) (hc : cells + 1 ≤ R.cells) (hl : slots + cap ≤ R.slots) (hp : pc + 2 = pc')
    (k : ∀ T' h' a, a = h.size → Stand p l e R s m args below meth c T' locs (cells + 1) (slots + cap) → T'.heap = h' → Ext h h' → OwA Z h' a (newarray.typeOf aty) N (fun _ => defaultValue (newarray.typeOf aty)) → OwF p e below D T' (mkF m pc' Ls (.ref a :: r))) : OwF p e below D T (mkF m pc Ls (.int z :: r)) := by
  subst hp; subst hN
  obtain ⟨T', h', cA, X', e', E', A', st⟩ := newP X C.1 C.2.2.2.2.2.2.2 w eT (g := mkF m pc Ls (.int z :: r)) rfl (hb C.2.1 hd) rfl hn hcap hb8 hc hl
  exact OwF.st st (k T' h' _ rfl X' e' E' (OwA.new A'))
theorem ow_arraylength {z : Int32} (C : OwC p Z s m meth c own nm bytes maxL ret) (X : Stand p l e R s m args below meth c T locs cells slots) (eT : T.heap = h) (A : OwA Z h a ty n f) (hz : n.toInt32 = z) (hd : decode bytes pc = .ok (.arraylength, 1)) (hp : pc + 1 = pc')
    (k : OwF p e below D T (mkF m pc' Ls (.int z :: r))) : OwF p e below D T (mkF m pc Ls (.ref a :: r)) := by
  subst hp; subst hz
  obtain ⟨cl, A, S, -⟩ := A
  subst S
  exact OwF.st (fun t q => X.arraylength C.1 (by rw [eT]; exact A.1) (State.isArrayOf_alike C.2.2.2.2.2.2.2.alike A.2.1) (g := mkF m pc Ls (.ref a :: r)) rfl rfl (hb C.2.1 hd) t q) k
theorem ow_iaload {z : Int32} (C : OwC p Z s m meth c own nm bytes maxL ret) (X : Stand p l e R s m args below meth c T locs cells slots) (eT : T.heap = h) (A : OwA Z h a .int n f) (h0 : ¬ z < 0) (hj : z.toNatClampNeg = i) (hlt : i < n) (hv : f i = v) (hd : decode bytes pc = .ok (.iaload, 1)) (hp : pc + 1 = pc')
    (k : OwF p e below D T (mkF m pc' Ls (v :: r))) : OwF p e below D T (mkF m pc Ls (.int z :: .ref a :: r)) := by
  subst hp; subst hj; subst hv
  obtain ⟨cl, A, S, H⟩ := A
  exact OwF.st (fun t q => X.iaload C.1 (by rw [eT]; exact A.1) (State.isArrayOf_alike C.2.2.2.2.2.2.2.alike A.2.1) A.2.2 (fun w => w.elim h0 (fun w => by omega)) (H _ hlt) (g := mkF m pc Ls (.int z :: .ref a :: r)) rfl rfl (hb C.2.1 hd) t q) k
theorem ow_laload {z : Int32} (C : OwC p Z s m meth c own nm bytes maxL ret) (X : Stand p l e R s m args below meth c T locs cells slots) (eT : T.heap = h) (A : OwA Z h a .long n f) (h0 : ¬ z < 0) (hj : z.toNatClampNeg = i) (hlt : i < n) (hv : f i = v) (hd : decode bytes pc = .ok (.laload, 1)) (hp : pc + 1 = pc')
    (k : OwF p e below D T (mkF m pc' Ls (v :: r))) : OwF p e below D T (mkF m pc Ls (.int z :: .ref a :: r)) := by
  subst hp; subst hj; subst hv
  obtain ⟨cl, A, S, H⟩ := A
  exact OwF.st (fun t q => X.laload C.1 (by rw [eT]; exact A.1) (State.isArrayOf_alike C.2.2.2.2.2.2.2.alike A.2.1) A.2.2 (fun w => w.elim h0 (fun w => by omega)) (H _ hlt) (g := mkF m pc Ls (.int z :: .ref a :: r)) rfl rfl (hb C.2.1 hd) t q) k
theorem ow_caload {z : Int32} (C : OwC p Z s m meth c own nm bytes maxL ret) (X : Stand p l e R s m args below meth c T locs cells slots) (eT : T.heap = h) (A : OwA Z h a .char n f) (h0 : ¬ z < 0) (hj : z.toNatClampNeg = i) (hlt : i < n) (hv : f i = v) (hd : decode bytes pc = .ok (.caload, 1)) (hp : pc + 1 = pc')
    (k : OwF p e below D T (mkF m pc' Ls (v :: r))) : OwF p e below D T (mkF m pc Ls (.int z :: .ref a :: r)) := by
  subst hp; subst hj; subst hv
  obtain ⟨cl, A, S, H⟩ := A
  exact OwF.st (fun t q => X.caload C.1 (by rw [eT]; exact A.1) (State.isArrayOf_alike C.2.2.2.2.2.2.2.alike A.2.1) A.2.2 (fun w => w.elim h0 (fun w => by omega)) (H _ hlt) (g := mkF m pc Ls (.int z :: .ref a :: r)) rfl rfl (hb C.2.1 hd) t q) k
theorem ow_saload {z : Int32} (C : OwC p Z s m meth c own nm bytes maxL ret) (X : Stand p l e R s m args below meth c T locs cells slots) (eT : T.heap = h) (A : OwA Z h a .short n f) (h0 : ¬ z < 0) (hj : z.toNatClampNeg = i) (hlt : i < n) (hv : f i = v) (hd : decode bytes pc = .ok (.saload, 1)) (hp : pc + 1 = pc')
    (k : OwF p e below D T (mkF m pc' Ls (v :: r))) : OwF p e below D T (mkF m pc Ls (.int z :: .ref a :: r)) := by
  subst hp; subst hj; subst hv
  obtain ⟨cl, A, S, H⟩ := A
  exact OwF.st (fun t q => X.saload C.1 (by rw [eT]; exact A.1) (State.isArrayOf_alike C.2.2.2.2.2.2.2.alike A.2.1) A.2.2 (fun w => w.elim h0 (fun w => by omega)) (H _ hlt) (g := mkF m pc Ls (.int z :: .ref a :: r)) rfl rfl (hb C.2.1 hd) t q) k
theorem ow_aaload {z : Int32} (C : OwC p Z s m meth c own nm bytes maxL ret) (X : Stand p l e R s m args below meth c T locs cells slots) (eT : T.heap = h) (A : OwA Z h a ty n f) (hty : ty.isReference = true) (h0 : ¬ z < 0) (hj : z.toNatClampNeg = i) (hlt : i < n) (hv : f i = v) (hd : decode bytes pc = .ok (.aaload, 1)) (hp : pc + 1 = pc')
    (k : OwF p e below D T (mkF m pc' Ls (v :: r))) : OwF p e below D T (mkF m pc Ls (.int z :: .ref a :: r)) := by
  subst hp; subst hj; subst hv
  obtain ⟨cl, A, S, H⟩ := A
  exact OwF.st (fun t q => X.aaload C.1 (by rw [eT]; exact A.1) (State.isArrayOf_alike C.2.2.2.2.2.2.2.alike A.2.1) hty A.2.2 (fun w => w.elim h0 (fun w => by omega)) (H _ hlt) (g := mkF m pc Ls (.int z :: .ref a :: r)) rfl rfl (hb C.2.1 hd) t q) k
theorem ow_baload {z : Int32} (C : OwC p Z s m meth c own nm bytes maxL ret) (X : Stand p l e R s m args below meth c T locs cells slots) (eT : T.heap = h) (A : OwA Z h a .byte n f) (h0 : ¬ z < 0) (hj : z.toNatClampNeg = i) (hlt : i < n) (hv : f i = v) (hd : decode bytes pc = .ok (.baload, 1)) (hp : pc + 1 = pc')
    (k : OwF p e below D T (mkF m pc' Ls (v :: r))) : OwF p e below D T (mkF m pc Ls (.int z :: .ref a :: r)) := by
  subst hp; subst hj; subst hv
  obtain ⟨cl, A, S, H⟩ := A
  exact OwF.st (fun t q => X.baloadBytes C.1 (by rw [eT]; exact A.1) (State.isArrayOf_alike C.2.2.2.2.2.2.2.alike A.2.1) A.2.2 (fun w => w.elim h0 (fun w => by omega)) (H _ hlt) (g := mkF m pc Ls (.int z :: .ref a :: r)) rfl rfl (hb C.2.1 hd) t q) k
theorem ow_iastore {z : Int32} {x : Int32} (C : OwC p Z s m meth c own nm bytes maxL ret) (X : Stand p l e R s m args below meth c T locs cells slots) (eT : T.heap = h) (A : OwA Z h a .int n f) (h0 : ¬ z < 0) (hj : z.toNatClampNeg = i) (hlt : i < n) (hd : decode bytes pc = .ok (.iastore, 1)) (hp : pc + 1 = pc')
    (k : ∀ T' h', Stand p l e R s m args below meth c T' (locs ++ [⟨a, i⟩]) cells slots → T'.heap = h' → Wr h h' a i (.int x) → OwF p e below D T' (mkF m pc' Ls r)) : OwF p e below D T (mkF m pc Ls (.int x :: .int z :: .ref a :: r)) := by
  subst hp; subst hj
  obtain ⟨cl, A, S, H⟩ := A
  obtain ⟨T', h', X', e', W', st⟩ := stI X C.1 C.2.2.2.2.2.2.2 eT A (j := z) (x := x) (fun w => w.elim h0 (fun w => by omega)) (g := mkF m pc Ls (.int x :: .int z :: .ref a :: r)) rfl rfl (hb C.2.1 hd)
  exact OwF.st st (k T' h' X' e' W')
theorem ow_lastore {z : Int32} {x : Int64} (C : OwC p Z s m meth c own nm bytes maxL ret) (X : Stand p l e R s m args below meth c T locs cells slots) (eT : T.heap = h) (A : OwA Z h a .long n f) (h0 : ¬ z < 0) (hj : z.toNatClampNeg = i) (hlt : i < n) (hd : decode bytes pc = .ok (.lastore, 1)) (hp : pc + 1 = pc')
    (k : ∀ T' h', Stand p l e R s m args below meth c T' (locs ++ [⟨a, i⟩]) cells slots → T'.heap = h' → Wr h h' a i (.long x) → OwF p e below D T' (mkF m pc' Ls r)) : OwF p e below D T (mkF m pc Ls (.long x :: .int z :: .ref a :: r)) := by
  subst hp; subst hj
  obtain ⟨cl, A, S, H⟩ := A
  obtain ⟨T', h', X', e', W', st⟩ := stJ X C.1 C.2.2.2.2.2.2.2 eT A (j := z) (x := x) (fun w => w.elim h0 (fun w => by omega)) (g := mkF m pc Ls (.long x :: .int z :: .ref a :: r)) rfl rfl (hb C.2.1 hd)
  exact OwF.st st (k T' h' X' e' W')
theorem ow_castore {z : Int32} {x : Int32} (C : OwC p Z s m meth c own nm bytes maxL ret) (X : Stand p l e R s m args below meth c T locs cells slots) (eT : T.heap = h) (A : OwA Z h a .char n f) (h0 : ¬ z < 0) (hj : z.toNatClampNeg = i) (hlt : i < n) (hd : decode bytes pc = .ok (.castore, 1)) (hp : pc + 1 = pc')
    (k : ∀ T' h', Stand p l e R s m args below meth c T' (locs ++ [⟨a, i⟩]) cells slots → T'.heap = h' → Wr h h' a i (.int (nar .char x)) → OwF p e below D T' (mkF m pc' Ls r)) : OwF p e below D T (mkF m pc Ls (.int x :: .int z :: .ref a :: r)) := by
  subst hp; subst hj
  obtain ⟨cl, A, S, H⟩ := A
  obtain ⟨T', h', X', e', W', st⟩ := stC X C.1 C.2.2.2.2.2.2.2 eT A (j := z) (x := x) (fun w => w.elim h0 (fun w => by omega)) (g := mkF m pc Ls (.int x :: .int z :: .ref a :: r)) rfl rfl (hb C.2.1 hd)
  exact OwF.st st (k T' h' X' e' W')
theorem ow_sastore {z : Int32} {x : Int32} (C : OwC p Z s m meth c own nm bytes maxL ret) (X : Stand p l e R s m args below meth c T locs cells slots) (eT : T.heap = h) (A : OwA Z h a .short n f) (h0 : ¬ z < 0) (hj : z.toNatClampNeg = i) (hlt : i < n) (hd : decode bytes pc = .ok (.sastore, 1)) (hp : pc + 1 = pc')
    (k : ∀ T' h', Stand p l e R s m args below meth c T' (locs ++ [⟨a, i⟩]) cells slots → T'.heap = h' → Wr h h' a i (.int (nar .short x)) → OwF p e below D T' (mkF m pc' Ls r)) : OwF p e below D T (mkF m pc Ls (.int x :: .int z :: .ref a :: r)) := by
  subst hp; subst hj
  obtain ⟨cl, A, S, H⟩ := A
  obtain ⟨T', h', X', e', W', st⟩ := stS X C.1 C.2.2.2.2.2.2.2 eT A (j := z) (x := x) (fun w => w.elim h0 (fun w => by omega)) (g := mkF m pc Ls (.int x :: .int z :: .ref a :: r)) rfl rfl (hb C.2.1 hd)
  exact OwF.st st (k T' h' X' e' W')
theorem ow_bastore {z : Int32} {x : Int32} (C : OwC p Z s m meth c own nm bytes maxL ret) (X : Stand p l e R s m args below meth c T locs cells slots) (eT : T.heap = h) (A : OwA Z h a .byte n f) (h0 : ¬ z < 0) (hj : z.toNatClampNeg = i) (hlt : i < n) (hd : decode bytes pc = .ok (.bastore, 1)) (hp : pc + 1 = pc')
    (k : ∀ T' h', Stand p l e R s m args below meth c T' (locs ++ [⟨a, i⟩]) cells slots → T'.heap = h' → Wr h h' a i (.int (nar .byte x)) → OwF p e below D T' (mkF m pc' Ls r)) : OwF p e below D T (mkF m pc Ls (.int x :: .int z :: .ref a :: r)) := by
  subst hp; subst hj
  obtain ⟨cl, A, S, H⟩ := A
  obtain ⟨T', h', X', e', W', st⟩ := stB X C.1 C.2.2.2.2.2.2.2 eT A (j := z) (x := x) (fun w => w.elim h0 (fun w => by omega)) (g := mkF m pc Ls (.int x :: .int z :: .ref a :: r)) rfl rfl (hb C.2.1 hd)
  exact OwF.st st (k T' h' X' e' W')
end OwnArr
section OwnRef
variable {p : Program} {l : Launch} {e : Env} {R : Room} {s : State} {m : MethodId} {args : Array Value} {below : List Frame} {meth : Method} {c : Code} {T : State} {locs : List Loc} {cells slots : Nat} {Z : State} {a0 : Array Value} {h h' : Heap}
variable {own nm : String} {bytes : ByteArray} {maxL : Nat} {ret : Option FieldType} {D : State → Outcome → Prop} {pc pc' pcT : Nat} {Ls Ls' : Array Slot} {r : List Value} {a : Addr} {K K2 : String} {index n : Nat} {v : Value} {t : FieldType}
theorem ow_retA {Q : Option Value → Heap → List Loc → Prop} {kc ks : Nat} (C : OwC p Z s m meth c own nm bytes maxL (some t)) (X : Stand p l e R s m args below meth c T locs cells slots) (hd : decode bytes pc = .ok (.areturn, 1)) (hc : cells ≤ kc) (hs : slots ≤ ks) (hv : v.isRef = true) (ht : t.isReference = true)
    (hQ : Q (some v) T.heap locs) : OwF p e below (OwD s below Q kc ks) T (mkF m pc Ls [v]) := by
  obtain ⟨hx, hby, -, -, -, hret, hlk, -⟩ := C
  obtain ⟨fs, hr, hrun, hended, hW, hsame⟩ := X.leave (v := some v) (fun h => by rw [hret] at h; cases h) hlk
  exact ⟨_, _, X.areturnOut hx hv hret ht (hb hby hd) hr, hrun, hended, _, _, rfl, hQ, ⟨_, rfl⟩, hW, hsame.mono hc hs⟩
theorem ow_instNull (C : OwC p Z s m meth c own nm bytes maxL ret) (X : Stand p l e R s m args below meth c T locs cells slots) (hd : decode bytes pc = .ok (.instanceof index, 3)) (hp : pc + 3 = pc') (k : OwF p e below D T (mkF m pc' Ls (.int 0 :: r))) : OwF p e below D T (mkF m pc Ls (.null :: r)) := by
  subst hp; exact OwF.st (fun t q => X.instanceofNull C.1 (g := mkF m pc Ls (.null :: r)) rfl rfl (hb C.2.1 hd) t q) k
theorem ow_instY (C : OwC p Z s m meth c own nm bytes maxL ret) (X : Stand p l e R s m args below meth c T locs cells slots) (eT : T.heap = h) (w : (Jvm.Cond.classLink own index K).before a0 Z = true) (F : Ins Z h a K true) (hd : decode bytes pc = .ok (.instanceof index, 3)) (hp : pc + 3 = pc')
    (k : ∀ T', Stand p l e R s m args below meth c T' locs cells slots → T'.heap = h → OwF p e below D T' (mkF m pc' Ls (.int 1 :: r))) : OwF p e below D T (mkF m pc Ls (.ref a :: r)) := by
  subst hp
  obtain ⟨T', X', e', st⟩ := instY X C.1 C.2.2.2.2.2.2.2 C.2.2.2.1 w eT F (g := mkF m pc Ls (.ref a :: r)) rfl rfl (hb C.2.1 hd)
  exact OwF.st st (k T' X' e')
theorem ow_instN (C : OwC p Z s m meth c own nm bytes maxL ret) (X : Stand p l e R s m args below meth c T locs cells slots) (eT : T.heap = h) (w : (Jvm.Cond.classLink own index K).before a0 Z = true) (E : Exa Z h a K2) (F : ∃ c t, Z.vm.findClass K2 = some c ∧ Z.vm.findClass K = some t ∧ Z.vm.assignable c t = false) (hd : decode bytes pc = .ok (.instanceof index, 3)) (hp : pc + 3 = pc')
    (k : ∀ T', Stand p l e R s m args below meth c T' locs cells slots → T'.heap = h → OwF p e below D T' (mkF m pc' Ls (.int 0 :: r))) : OwF p e below D T (mkF m pc Ls (.ref a :: r)) := by
  subst hp
  obtain ⟨T', X', e', st⟩ := instNo X C.1 C.2.2.2.2.2.2.2 C.2.2.2.1 w eT E F (g := mkF m pc Ls (.ref a :: r)) rfl rfl (hb C.2.1 hd)
  exact OwF.st st (k T' X' e')
theorem ow_cast (C : OwC p Z s m meth c own nm bytes maxL ret) (X : Stand p l e R s m args below meth c T locs cells slots) (eT : T.heap = h) (w : (Jvm.Cond.classLink own index K).before a0 Z = true) (F : Ins Z h a K true) (hd : decode bytes pc = .ok (.checkcast index, 3)) (hp : pc + 3 = pc')
    (k : ∀ T', Stand p l e R s m args below meth c T' locs cells slots → T'.heap = h → OwF p e below D T' (mkF m pc' Ls (.ref a :: r))) : OwF p e below D T (mkF m pc Ls (.ref a :: r)) := by
  subst hp
  obtain ⟨T', X', e', st⟩ := castY X C.1 C.2.2.2.2.2.2.2 C.2.2.2.1 w eT F (g := mkF m pc Ls (.ref a :: r)) rfl rfl (hb C.2.1 hd)
  exact OwF.st st (k T' X' e')
theorem ow_ifnull_n {o : Int} (C : OwC p Z s m meth c own nm bytes maxL ret) (X : Stand p l e R s m args below meth c T locs cells slots) (hd : decode bytes pc = .ok (.ifnull o, 3)) (ho : 0 ≤ (pc : Int) + o) (ht : ((pc : Int) + o).toNat = pcT) (k : OwF p e below D T (mkF m pcT Ls r)) : OwF p e below D T (mkF m pc Ls (.null :: r)) :=
  OwF.st (fun _ q => XS.ifnullYes X.here C.1 rfl rfl (hb C.2.1 hd) rfl ho ht q) k
theorem ow_ifnull_r {o : Int} (C : OwC p Z s m meth c own nm bytes maxL ret) (X : Stand p l e R s m args below meth c T locs cells slots) (hd : decode bytes pc = .ok (.ifnull o, 3)) (hp : pc + 3 = pc') (k : OwF p e below D T (mkF m pc' Ls r)) : OwF p e below D T (mkF m pc Ls (.ref a :: r)) := by
  subst hp; exact OwF.st (fun _ q => XS.ifnullNo X.here C.1 rfl (hb C.2.1 hd) rfl q) k
theorem ow_ifnonnull_n {o : Int} (C : OwC p Z s m meth c own nm bytes maxL ret) (X : Stand p l e R s m args below meth c T locs cells slots) (hd : decode bytes pc = .ok (.ifnonnull o, 3)) (hp : pc + 3 = pc') (k : OwF p e below D T (mkF m pc' Ls r)) : OwF p e below D T (mkF m pc Ls (.null :: r)) := by
  subst hp; exact OwF.st (fun _ q => XT.ifnonnullNo X.here C.1 rfl (hb C.2.1 hd) rfl q) k
theorem ow_ifnonnull_r {o : Int} (C : OwC p Z s m meth c own nm bytes maxL ret) (X : Stand p l e R s m args below meth c T locs cells slots) (hd : decode bytes pc = .ok (.ifnonnull o, 3)) (ho : 0 ≤ (pc : Int) + o) (ht : ((pc : Int) + o).toNat = pcT) (k : OwF p e below D T (mkF m pcT Ls r)) : OwF p e below D T (mkF m pc Ls (.ref a :: r)) :=
  OwF.st (fun _ q => XT.ifnonnullYes X.here C.1 rfl rfl (hb C.2.1 hd) rfl ho ht q) k
theorem ow_acmpY {cd : ClassFile.ACond} {x y : Value} {o : Int} (C : OwC p Z s m meth c own nm bytes maxL ret) (X : Stand p l e R s m args below meth c T locs cells slots) (hd : decode bytes pc = .ok (.if_acmp cd o, 3)) (hx : x.isRef = true) (hy : y.isRef = true) (hc : XT.acmp cd x y = true) (ho : 0 ≤ (pc : Int) + o) (ht : ((pc : Int) + o).toNat = pcT) (k : OwF p e below D T (mkF m pcT Ls r)) : OwF p e below D T (mkF m pc Ls (y :: x :: r)) :=
  OwF.st (fun _ q => XT.acmpYes X.here C.1 rfl rfl (hb C.2.1 hd) rfl hx hy hc ho ht q) k
theorem ow_acmpN {cd : ClassFile.ACond} {x y : Value} {o : Int} (C : OwC p Z s m meth c own nm bytes maxL ret) (X : Stand p l e R s m args below meth c T locs cells slots) (hd : decode bytes pc = .ok (.if_acmp cd o, 3)) (hx : x.isRef = true) (hy : y.isRef = true) (hc : XT.acmp cd x y = false) (hp : pc + 3 = pc') (k : OwF p e below D T (mkF m pc' Ls r)) : OwF p e below D T (mkF m pc Ls (y :: x :: r)) := by
  subst hp; exact OwF.st (fun _ q => XT.acmpNo X.here C.1 rfl (hb C.2.1 hd) rfl hx hy hc q) k
theorem ow_clone {ad : String} {cl : Cell} {cap : Nat} (C : OwC p Z s m meth c own nm bytes maxL ret) (X : Stand p l e R s m args below meth c T locs cells slots) (eT : T.heap = h)
    (w1 : (Jvm.Cond.methodLink own index ⟨ad, "clone", "()Ljava/lang/Object;"⟩).before a0 Z = true) (w2 : (Jvm.Cond.sameMethod ad "java/lang/Object" "clone" "()Ljava/lang/Object;").before a0 Z = true) (w3 : (Jvm.Cond.native ⟨"java/lang/Object", "clone", "()Ljava/lang/Object;"⟩).before a0 Z = true)
    (w4 : (Jvm.Cond.instanceMethod ⟨"java/lang/Object", "clone", "()Ljava/lang/Object;"⟩).before a0 Z = true) (w5 : (Jvm.Cond.selects ad ⟨ad, "clone", "()Ljava/lang/Object;"⟩ ⟨"java/lang/Object", "clone", "()Ljava/lang/Object;"⟩).before a0 Z = true) (w6 : (Jvm.Cond.castable ad "java/lang/Cloneable").before a0 Z = true)
    (A : Arr Z h a cl t) (E : Exa Z h a ad) (F : FitC Z cl) (hsz : Ls.size = maxL) (hd : decode bytes pc = .ok (.invokevirtual index, 3)) (hf : 1 ≤ R.frames) (hl : owCat r + 14 ≤ R.locals) (hcap : cl.slots.size ≤ cap) (hc : cells + 1 ≤ R.cells) (hsl : slots + cap ≤ R.slots) (hp : pc + 3 = pc')
    (k : ∀ T' h' b, b = h.size → Stand p l e R s m args below meth c T' locs (cells + 1) (slots + cap) → T'.heap = h' → Ext h h' → Arr Z h' b (Jvm.RoadKit.cloneOf cl) t → Exa Z h' b ad → OwF p e below D T' (mkF m pc' Ls (.ref b :: r))) : OwF p e below D T (mkF m pc Ls (.ref a :: r)) := by
  subst hp
  obtain ⟨T', h', X', e', E', A', Ex', st⟩ := cloneA X C.1 C.2.2.2.2.2.2.2 C.2.2.2.1 w1 w2 w3 w4 w5 w6 eT A E F (g := mkF m pc Ls (.ref a :: r)) rfl (by rw [C.2.2.1]; exact hsz) rfl (hb C.2.1 hd) hf (W := owCat r) (by show 2 * 0 + owCat r ≤ owCat r; omega) hl hcap hc hsl
  exact OwF.st st (k T' h' _ rfl X' e' E' A' Ex')
/-- C's chain of superclasses doesn't meet an instantiable K -/
theorem own_ns0 {O : String} (w : (Jvm.Cond.noSuperclass O).before a0 Z = true) (wk : (Jvm.Cond.instantiable K n).before a0 Z = true) (hn : O ≠ K) : NS Z O K := by
  obtain ⟨c, k, h1, h2, h3, -, -⟩ := Cond.noSuperclass_spec w
  obtain ⟨t, _, g1, -⟩ := Cond.instantiable_spec wk
  have ne := ids_ne h1 g1 hn
  refine ⟨c, t, h1, g1, fun fuel => ?_⟩
  cases fuel with
  | zero => rfl
  | succ f => simp [Vm.isSubclassAux, ne, h2, h3]
theorem own_ns1 {S : String} (w : (Jvm.Cond.superclass K2 S).before a0 Z = true) (wk : (Jvm.Cond.instantiable K n).before a0 Z = true) (q : NS Z K2 K) (hn : K2 ≠ K) : ∃ c t, Z.vm.findClass K2 = some c ∧ Z.vm.findClass K = some t ∧ Z.vm.assignable c t = false := by
  obtain ⟨c, t, h0, g0, n3⟩ := q
  obtain ⟨p, k, kp, h1, h2, h3, h4, h5, -, h7⟩ := Cond.superclass_spec h0 w
  obtain ⟨t', k', g1, g2, g5, g6, -⟩ := Cond.instantiable_spec wk
  cases g0.symm.trans g1
  have ne := ids_ne h0 g0 hn
  have g7 : k'.isInterface = false := by simp only [Bool.or_eq_false_iff] at g6; exact g6.1
  refine ⟨c, t, h0, g0, ?_⟩
  show Z.vm.assignableAux (255 + 1) c t = false
  simp [Vm.assignableAux, ne, h2, g2, h5, g5, g7, Vm.isSubclass, n3]
end OwnRef
section OwnMore
variable {p : Program} {l : Launch} {e : Env} {R : Room} {s : State} {m : MethodId} {args : Array Value} {below : List Frame} {meth : Method} {c : Code} {T : State} {locs : List Loc} {cells slots : Nat} {Z : State} {a0 : Array Value} {h h' : Heap}
variable {own nm : String} {bytes : ByteArray} {maxL : Nat} {ret : Option FieldType} {D : State → Outcome → Prop} {pc pc' pcT : Nat} {Ls Ls' : Array Slot} {r : List Value} {a b : Addr} {K K2 : String} {index n n2 kk : Nat} {v : Value} {t : FieldType} {f f2 : Nat → Value}
/-- roads that meet with unlike heaps: what holds of each -/
theorem ow_joinH {n0 CC SS : Nat} {P : Heap → Prop} {f f' : JFrame} (X : Stand p l e R s m args below meth c T locs cells slots) (A : ∀ D : State → Outcome → Prop, (∀ T' locs', Stand p l e R s m args below meth c T' locs' CC SS → Fr n0 locs' → P T'.heap → OwF p e below D T' f') → OwF p e below D T f)
    (k : ∀ T' locs', Stand p l e R s m args below meth c T' locs' CC SS → Fr n0 locs' → P T'.heap → OwF p e below D T' f') : OwF p e below D T f := A D k
/-- a private method by its contract -/
theorem ow_callR {y : MethodName} {by' : ByteArray} {mx : Nat} {rt : Option FieldType} {rm : Room} {Q : Option Value → Heap → List Loc → Prop} {stk argsL rest : List Value} {ps : List FieldType} {pr : Option FieldType}
    (C : OwC p Z s m meth c own nm bytes maxL ret) (X : Stand p l e R s m args below meth c T locs cells slots) (eT : T.heap = h)
    (w1 : (Jvm.Cond.methodLink own index y).before a0 Z = true) (w2 : (Jvm.Cond.instanceMethod y).before a0 Z = true) (wp : (Jvm.Cond.privateMethod y).before a0 Z = true) (wi : (Jvm.Cond.instantiable y.cls kk).before a0 Z = true) (w3 : (Jvm.Cond.initialized y.cls).before a0 Z = true) (w4 : (Jvm.Cond.code y by' mx rt).before a0 Z = true)
    (hy : y.cls ≠ "java/lang/invoke/MethodHandle" ∧ y.cls ≠ "java/lang/invoke/VarHandle") (E : Exa Z h a K)
    (M : OwCon l y by' mx rt rm Z (.ref a :: argsL).toArray h Q) (hds : parseMethodDescriptor y.desc = some ⟨ps, pr⟩) (hln : argsL.length = ps.length) (hst : stk = argsL.reverse ++ .ref a :: rest) (hsz : Ls.size = maxL)
    (hd : decode bytes pc = .ok (.invokevirtual index, 3)) (hfr : rm.frames + 1 ≤ R.frames) (hlo : owCat rest + (mx + 11) + rm.locals ≤ R.locals) (hcl : cells + rm.cells ≤ R.cells) (hsl : slots + rm.slots ≤ R.slots) (hp : pc + 3 = pc')
    (k : ∀ T' v L, Stand p l e R s m args below meth c T' (locs ++ L) (cells + rm.cells) (slots + rm.slots) → Q v T'.heap L → OwF p e below D T' (mkF m pc' Ls (v.toList ++ rest))) : OwF p e below D T (mkF m pc Ls stk) := by
  subst hp; subst hst
  have hZ := C.2.2.2.2.2.2.2
  obtain ⟨cc, q1, q2⟩ := E.cell
  obtain ⟨ci, ki, i1, i2, -, i4, -⟩ := Cond.instantiable_spec (mvT (args := args) hZ wi)
  have hpa : s.PrivateAt y := Cond.privateMethod_at (mvP hZ wp (args := #[]))
  obtain ⟨v, _, ⟨T', L', k', n'⟩, -, X', ⟨Lc, hQ, l', y', z'⟩, st⟩ := X.privateBack C.1 (y := y) C.2.2.2.1 (mvT hZ w1) (mvT hZ w2) (selects_self_of_private i1 i2 (Bool.or_eq_false_iff.mp i4).1 hpa (mvT hZ w2) hy) hpa (mvT hZ w4) hy (backOf (W := owCat rest) (M []) hZ w4 w3 hfr hlo) (g := mkF m pc Ls (argsL.reverse ++ .ref a :: rest)) rfl (by rw [C.2.2.1]; exact hsz) (Steps.refl _) (a := a) (by rw [eT]; exact q1) q2 (argsL := argsL) (rest := rest) (lenOf hds hln) rfl (by show 2 * 0 + owCat rest ≤ owCat rest; omega) (hb C.2.1 hd) (fun _ _ => ⟨rfl, eT, hcl, hsl⟩)
  dsimp only [Pt.U, Pt.locs, Pt.cells, Pt.slots] at X' l' y' z' st hQ
  subst l' y' z'
  exact OwF.st (fun _ q => st.trans q) (k T' v Lc X' hQ)
/-- a pure private method that returns a value -/
theorem ow_callRP {y : MethodName} {by' : ByteArray} {mx : Nat} {rt : Option FieldType} {rm : Room} {v : Value} {stk argsL rest : List Value} {ps : List FieldType} {pr : Option FieldType}
    (C : OwC p Z s m meth c own nm bytes maxL ret) (X : Stand p l e R s m args below meth c T locs cells slots) (eT : T.heap = h)
    (w1 : (Jvm.Cond.methodLink own index y).before a0 Z = true) (w2 : (Jvm.Cond.instanceMethod y).before a0 Z = true) (wp : (Jvm.Cond.privateMethod y).before a0 Z = true) (wi : (Jvm.Cond.instantiable y.cls kk).before a0 Z = true) (w3 : (Jvm.Cond.initialized y.cls).before a0 Z = true) (w4 : (Jvm.Cond.code y by' mx rt).before a0 Z = true)
    (hy : y.cls ≠ "java/lang/invoke/MethodHandle" ∧ y.cls ≠ "java/lang/invoke/VarHandle") (E : Exa Z h a K)
    (M : OwCon l y by' mx rt rm Z (.ref a :: argsL).toArray h (OwP (some v) h)) (hrm : rm.cells = 0 ∧ rm.slots = 0) (hds : parseMethodDescriptor y.desc = some ⟨ps, pr⟩) (hln : argsL.length = ps.length) (hst : stk = argsL.reverse ++ .ref a :: rest) (hsz : Ls.size = maxL)
    (hd : decode bytes pc = .ok (.invokevirtual index, 3)) (hfr : rm.frames + 1 ≤ R.frames) (hlo : owCat rest + (mx + 11) + rm.locals ≤ R.locals) (hcl : cells ≤ R.cells) (hsl : slots ≤ R.slots) (hp : pc + 3 = pc')
    (k : ∀ T', Stand p l e R s m args below meth c T' locs cells slots → T'.heap = h → OwF p e below D T' (mkF m pc' Ls (v :: rest))) : OwF p e below D T (mkF m pc Ls stk) := by
  refine ow_callR C X eT w1 w2 wp wi w3 w4 hy E M hds hln hst hsz hd hfr hlo (by rw [hrm.1]; exact hcl) (by rw [hrm.2]; exact hsl) hp fun T' v' L' X' hQ => ?_
  obtain ⟨rfl, rfl, hh⟩ := hQ
  rw [hrm.1, hrm.2, List.append_nil] at X'
  exact k T' X' hh
/-- a pure private method that returns nothing -/
theorem ow_callRN {y : MethodName} {by' : ByteArray} {mx : Nat} {rt : Option FieldType} {rm : Room} {stk argsL rest : List Value} {ps : List FieldType} {pr : Option FieldType}
    (C : OwC p Z s m meth c own nm bytes maxL ret) (X : Stand p l e R s m args below meth c T locs cells slots) (eT : T.heap = h)
    (w1 : (Jvm.Cond.methodLink own index y).before a0 Z = true) (w2 : (Jvm.Cond.instanceMethod y).before a0 Z = true) (wp : (Jvm.Cond.privateMethod y).before a0 Z = true) (wi : (Jvm.Cond.instantiable y.cls kk).before a0 Z = true) (w3 : (Jvm.Cond.initialized y.cls).before a0 Z = true) (w4 : (Jvm.Cond.code y by' mx rt).before a0 Z = true)
    (hy : y.cls ≠ "java/lang/invoke/MethodHandle" ∧ y.cls ≠ "java/lang/invoke/VarHandle") (E : Exa Z h a K)
    (M : OwCon l y by' mx rt rm Z (.ref a :: argsL).toArray h (OwP none h)) (hrm : rm.cells = 0 ∧ rm.slots = 0) (hds : parseMethodDescriptor y.desc = some ⟨ps, pr⟩) (hln : argsL.length = ps.length) (hst : stk = argsL.reverse ++ .ref a :: rest) (hsz : Ls.size = maxL)
    (hd : decode bytes pc = .ok (.invokevirtual index, 3)) (hfr : rm.frames + 1 ≤ R.frames) (hlo : owCat rest + (mx + 11) + rm.locals ≤ R.locals) (hcl : cells ≤ R.cells) (hsl : slots ≤ R.slots) (hp : pc + 3 = pc')
    (k : ∀ T', Stand p l e R s m args below meth c T' locs cells slots → T'.heap = h → OwF p e below D T' (mkF m pc' Ls rest)) : OwF p e below D T (mkF m pc Ls stk) := by
  refine ow_callR C X eT w1 w2 wp wi w3 w4 hy E M hds hln hst hsz hd hfr hlo (by rw [hrm.1]; exact hcl) (by rw [hrm.2]; exact hsl) hp fun T' v' L' X' hQ => ?_
  obtain ⟨rfl, rfl, hh⟩ := hQ
  rw [hrm.1, hrm.2, List.append_nil] at X'
  exact k T' X' hh
/-- the array at a is of a class whose places take a C, itself an array class over ty -/
def OwOv (Z : State) (h : Heap) (a : Addr) (ty : FieldType) (C : String) : Prop := ∃ c : Cell, h[a]? = some c ∧ OvrA Z c.cls ty C
theorem OwOv.ext {C : String} (O : OwOv Z h a t C) (E : Ext h h') : OwOv Z h' a t C := by obtain ⟨c, q, o⟩ := O; exact ⟨c, E.2 _ _ q, o⟩
theorem OwOv.wr {C : String} {sl : Nat} (O : OwOv Z h a t C) (W : Wr h h' b sl v) : OwOv Z h' a t C := by
  obtain ⟨c, q, o⟩ := O
  obtain ⟨c', e1, e2, -⟩ := wr_at W q
  exact ⟨c', e1, by rw [e2]; exact o⟩
theorem OwOv.keep {C : String} {ws : List Addr} (O : OwOv Z h a t C) (K : Keep h h' ws) : OwOv Z h' a t C := by
  obtain ⟨c, q, o⟩ := O
  obtain ⟨c', e1, e2, -⟩ := K.2.2 _ _ q
  exact ⟨c', e1, by rw [e2]; exact o⟩
theorem OwOv.sto {C : String} {ty : FieldType} (O : OwOv Z h a ty C) (A : OwA Z h a t n f) (I : Ins Z h b C true) : Sto Z h a (.ref b) := by
  obtain ⟨c, q, o⟩ := O
  obtain ⟨c', A', -⟩ := A
  cases q.symm.trans A'.1
  exact Sto.ofVA A' rfl o I
/-- a new array of arrays -/
theorem ow_anewA {K ad : String} {ty : FieldType} {z : Int32} {N cap : Nat} (C : OwC p Z s m meth c own nm bytes maxL ret) (X : Stand p l e R s m args below meth c T locs cells slots) (eT : T.heap = h) (hC : (FieldType.array ty).toString = K) (had : "[" ++ K = ad) (w : (Jvm.Cond.classLink own index K).before a0 Z = true) (w2 : (Jvm.Cond.arrayOver (.array ty)).before a0 Z = true) (hd : decode bytes pc = .ok (.anewarray index, 3))
    (hn : ¬ z < 0) (hN : z.toNatClampNeg = N) (hcap : N ≤ cap) (hb8 : cap * 8 ≤ 536870912) (hc : cells + 1 ≤ R.cells) (hl : slots + cap ≤ R.slots) (hp : pc + 3 = pc')
    (k : ∀ T' h' a, a = h.size → Stand p l e R s m args below meth c T' locs (cells + 1) (slots + cap) → T'.heap = h' → Ext h h' → OwA Z h' a (.array ty) N (fun _ => .null) → Exa Z h' a ad → OwOv Z h' a ty K → OwF p e below D T' (mkF m pc' Ls (.ref a :: r))) : OwF p e below D T (mkF m pc Ls (.int z :: r)) := by
  subst hp; subst hN
  obtain ⟨T', h', cA, X', e', E', A', Ex', O', st⟩ := newRA X C.1 C.2.2.2.2.2.2.2 C.2.2.2.1 hC w w2 eT (g := mkF m pc Ls (.int z :: r)) rfl (hb C.2.1 hd) rfl hn hcap hb8 hc hl had
  exact OwF.st st (k T' h' _ rfl X' e' E' (OwA.new A') Ex' ⟨_, A'.1, O'⟩)
/-- a new array of a primitive kind, its class told -/
theorem ow_newarrE {aty : ArrayType} {ad : String} {z : Int32} {N cap : Nat} (C : OwC p Z s m meth c own nm bytes maxL ret) (X : Stand p l e R s m args below meth c T locs cells slots) (eT : T.heap = h) (had : "[" ++ (newarray.typeOf aty).toString = ad) (w : (Jvm.Cond.arrayClass (newarray.typeOf aty)).before a0 Z = true) (hd : decode bytes pc = .ok (.newarray aty, 2))
    (hn : ¬ z < 0) (hN : z.toNatClampNeg = N) (hcap : N ≤ cap) (hb8 : cap * 8 ≤ 536870912) (hc : cells + 1 ≤ R.cells) (hl : slots + cap ≤ R.slots) (hp : pc + 2 = pc')
    (k : ∀ T' h' a, a = h.size → Stand p l e R s m args below meth c T' locs (cells + 1) (slots + cap) → T'.heap = h' → Ext h h' → OwA Z h' a (newarray.typeOf aty) N (fun _ => defaultValue (newarray.typeOf aty)) → Exa Z h' a ad → OwF p e below D T' (mkF m pc' Ls (.ref a :: r))) : OwF p e below D T (mkF m pc Ls (.int z :: r)) := by
  subst hp; subst hN
  obtain ⟨T', h', cA, X', e', E', A', Ex', st⟩ := newPE X C.1 C.2.2.2.2.2.2.2 w eT (g := mkF m pc Ls (.int z :: r)) rfl (hb C.2.1 hd) rfl hn hcap hb8 hc hl had
  exact OwF.st st (k T' h' _ rfl X' e' E' (OwA.new A') Ex')
theorem ow_aastore {z : Int32} {i : Nat} (C : OwC p Z s m meth c own nm bytes maxL ret) (X : Stand p l e R s m args below meth c T locs cells slots) (eT : T.heap = h) (A : OwA Z h a t n f) (hty : t.isReference = true) (S : Sto Z h a v) (h0 : ¬ z < 0) (hj : z.toNatClampNeg = i) (hlt : i < n) (hd : decode bytes pc = .ok (.aastore, 1)) (hp : pc + 1 = pc')
    (k : ∀ T' h', Stand p l e R s m args below meth c T' (locs ++ [⟨a, i⟩]) cells slots → T'.heap = h' → Wr h h' a i v → OwF p e below D T' (mkF m pc' Ls r)) : OwF p e below D T (mkF m pc Ls (v :: .int z :: .ref a :: r)) := by
  subst hp; subst hj
  obtain ⟨cl, A, S', H⟩ := A
  obtain ⟨T', h', X', e', W', st⟩ := stR X C.1 C.2.2.2.2.2.2.2 eT A (j := z) (v := v) (fun w => w.elim h0 (fun w => by omega)) hty S (g := mkF m pc Ls (v :: .int z :: .ref a :: r)) rfl rfl (hb C.2.1 hd)
  exact OwF.st st (k T' h' X' e' W')
theorem own_getD {n k : Nat} {f : Nat → Value} {d : Value} (h : k < n) : ((List.range n).map f).getD k d = f k := by
  rw [List.getD_eq_getElem?_getD, List.getElem?_map, List.getElem?_range h]; rfl
theorem OwA.arv {z : Int32} (A : OwA Z h a t n f) (hz : z.toNatClampNeg = n) (h0 : ¬ z < 0) (hf : ∀ j, j < n → fits t (f j) = true) (d : Value) : ∃ k, Arv Z h a k t z ((List.range n).map f) d := by
  obtain ⟨c, A, S, H⟩ := A
  exact ⟨c.cls, c, A, rfl, by rw [S, hz], h0, fun k hk => by rw [own_getD (by omega)]; exact H k (by omega), fun k hk => by rw [own_getD (by omega)]; exact hf k (by omega)⟩
/-- System.arraycopy of a primitive kind -/
theorem ow_acopy {zs zd sp dp nn : Int32} {si di ni n0 : Nat} (C : OwC p Z s m meth c own nm bytes maxL ret) (X : Stand p l e R s m args below meth c T locs cells slots) (eT : T.heap = h)
    (w1 : (Jvm.Cond.methodLink own index Jvm.Stand.acN).before a0 Z = true) (w2 : (Jvm.Cond.native Jvm.Stand.acN).before a0 Z = true) (w3 : (Jvm.Cond.static Jvm.Stand.acN).before a0 Z = true) (w4 : (Jvm.Cond.initialized "java/lang/System").before a0 Z = true)
    (A : OwA Z h a t n f) (B : OwA Z h b t n2 f2) (hty : refKind t = false) (hfa : ∀ j, j < n → fits t (f j) = true) (hfb : ∀ j, j < n2 → fits t (f2 j) = true) (hzs : zs.toNatClampNeg = n ∧ ¬ zs < 0) (hzd : zd.toNatClampNeg = n2 ∧ ¬ zd < 0)
    (hs0 : ¬ sp < 0) (hs : sp.toNatClampNeg = si) (hd0 : ¬ dp < 0) (hdd : dp.toNatClampNeg = di) (hn0 : ¬ nn < 0) (hnn : nn.toNatClampNeg = ni) (hb1 : si + ni ≤ n) (hb2 : di + ni ≤ n2) (N : Fr n0 locs) (ge : n0 ≤ b) (hsz : Ls.size = maxL) (hd : decode bytes pc = .ok (.invokestatic index, 3))
    (hfr : 1 ≤ R.frames) (hlo : owCat r + (nativeFrameWords "java/lang/System" "arraycopy" 5 + 11) ≤ R.locals) (hp : pc + 3 = pc')
    (k : ∀ T' h' L, Stand p l e R s m args below meth c T' L cells slots → T'.heap = h' → Fr n0 L → Keep h h' [b] → OwA Z h' b t n2 (fun j => if di ≤ j ∧ j < di + ni then f (si + (j - di)) else f2 j) → OwF p e below D T' (mkF m pc' Ls r)) : OwF p e below D T (mkF m pc Ls (.int nn :: .int dp :: .ref b :: .int sp :: .ref a :: r)) := by
  subst hp; subst hs; subst hdd; subst hnn
  obtain ⟨ka, VA⟩ := A.arv hzs.1 hzs.2 hfa .null
  obtain ⟨kb, VB⟩ := B.arv hzd.1 hzd.2 hfb .null
  obtain ⟨T', h', L', X', e', N', K', V', st⟩ := cpA X C.1 C.2.2.2.2.2.2.2 C.2.2.2.1 w1 w2 w3 w4 eT VA VB (Or.inl ⟨rfl, hty⟩) hs0 hd0 hn0 (by rw [hzs.1]; exact hb1) (by rw [hzd.1]; exact hb2) rfl (by rw [List.length_map, List.length_range]; exact hb2) N ge (g := mkF m pc Ls (.int nn :: .int dp :: .ref b :: .int sp :: .ref a :: r)) rfl (by rw [C.2.2.1]; exact hsz) rfl (hb C.2.1 hd) hfr (W := owCat r) (by show 2 * 0 + owCat r ≤ owCat r; omega) hlo
  refine OwF.st st (k T' h' L' X' e' N' K' ?_)
  obtain ⟨c', A', -, S', -, H', -⟩ := V'
  refine ⟨c', A', by rw [S']; exact hzd.1, fun j hj => ?_⟩
  rw [H' j (by rw [S', hzd.1]; exact hj)]
  congr 1
  dsimp only
  rw [List.getD_eq_getElem?_getD]
  by_cases q1 : j < dp.toNatClampNeg
  · rw [if_neg (by omega), List.append_assoc, List.getElem?_append_left (by rw [List.length_take, List.length_map, List.length_range]; omega), List.getElem?_take_of_lt q1, ← List.getD_eq_getElem?_getD, own_getD hj]
  · have hlt : ((List.take dp.toNatClampNeg ((List.range n2).map f2))).length = dp.toNatClampNeg := by rw [List.length_take, List.length_map, List.length_range]; omega
    rw [List.append_assoc, List.getElem?_append_right (by omega), hlt]
    by_cases q2 : j < dp.toNatClampNeg + nn.toNatClampNeg
    · rw [if_pos ⟨by omega, q2⟩, List.getElem?_append_left (by rw [List.length_map, List.length_range]; omega), ← List.getD_eq_getElem?_getD, own_getD (by omega), own_getD (by omega)]
    · rw [if_neg (by omega), List.getElem?_append_right (by rw [List.length_map, List.length_range]; omega), List.length_map, List.length_range, List.getElem?_drop, ← List.getD_eq_getElem?_getD, show dp.toNatClampNeg + nn.toNatClampNeg + (j - dp.toNatClampNeg - nn.toNatClampNeg) = j from by omega, own_getD hj]
end OwnMore
theorem own_nm {a b : Addr} (h : a ≠ b) : a ∉ [b] := fun q => h (List.mem_singleton.mp q)
theorem own_nm1 {a b : Addr} (h : a ≠ b) : a ∉ [b] := fun q => h (List.mem_singleton.mp q)
theorem own_nm2 {a b c : Addr} (h : a ≠ b) (h2 : a ≠ c) : a ∉ [b, c] := fun q => by simp only [List.mem_cons, List.not_mem_nil, or_false] at q; exact q.elim h h2
theorem own_kt {n : Nat} {a : Addr} {ws : List Addr} (h : n ≤ a) : ∀ x ∈ [a], x ∈ ws ∨ n ≤ x := fun x q => by cases List.mem_singleton.mp q; exact Or.inr h
theorem own_nil {a : Addr} : a ∉ ([] : List Addr) := fun q => nomatch q
theorem own_all0 {n : Nat} : ∀ x ∈ ([] : List Addr), n ≤ x := fun x q => nomatch q
theorem own_all1 {n : Nat} {a : Addr} (h : n ≤ a) : ∀ x ∈ [a], n ≤ x := fun x q => by cases List.mem_singleton.mp q; exact h
/-! contracts that say how many cells and slots they took -/
section OwnEx
variable {p : Program} {l : Launch} {e : Env} {R : Room} {s : State} {m : MethodId} {args : Array Value} {below : List Frame} {meth : Method} {c : Code} {T : State} {locs : List Loc} {cells slots : Nat} {Z : State} {a0 : Array Value} {h : Heap}
variable {own nm : String} {bytes : ByteArray} {maxL : Nat} {ret : Option FieldType} {D : State → Outcome → Prop} {pc pc' : Nat} {Ls : Array Slot} {index : Nat}
def OwDE (s : State) (below : List Frame) (Q : Option Value → Heap → List Loc → Nat → Nat → Prop) (t : State) (o : Outcome) : Prop :=
  t.status = .running ∧ Ended t below o ∧ ∃ v L kc ks, o = .returned v ∧ Q v t.heap L kc ks ∧ FrameEnd s o t L kc ks
def OwConE (l : Launch) (y : MethodName) (bytes : ByteArray) (maxL : Nat) (ret : Option FieldType) (rm : Room) (Z : State) (as' : Array Value) (h : Heap) (Q : Option Value → Heap → List Loc → Nat → Nat → Prop) : Prop :=
  ∀ ws, MetFree l y (head1 (Jvm.Cond.code y bytes maxL ret :: ws) rm) (fun a U => a = as' ∧ Z.Warmed39 U.vm ∧ U.heap = h) (fun _ _ _ _ _ => True) (fun _ U o U' => ∃ v L kc ks, o = .returned v ∧ Q v U'.heap L kc ks ∧ FrameEnd U o U' L kc ks)
theorem OwConE.of {y : MethodName} {rm : Room} {as' : Array Value} {Q : Option Value → Heap → List Loc → Nat → Nat → Prop} (hpl : plainFor y = true) {Ls : Array Slot} (hent : ∀ m, entryFrame m as' maxL = mkF m 0 Ls [])
    (body : ∀ (p : Program) (e : Env) (s : State) (m : MethodId) (below : List Frame) (meth : Method) (c : Code) (s₁ : State), OwC p Z s m meth c y.cls y.name bytes maxL ret → Stand p l e rm s m as' below meth c s₁ [] 0 0 → s₁.heap = h → OwF p e below (OwDE s below Q) s₁ (mkF m 0 Ls [])) :
    OwConE l y bytes maxL ret rm Z as' h Q := by
  intro ws
  refine MetFree.of_bodySF hpl hisR ?_
  intro p e s m args below meth c s₁ Bd hml0 hP hK
  obtain ⟨rfl, hZ, hh⟩ := hP
  have X0 : Stand p l e rm s m args below meth c s₁ [] 0 0 := Stand.of_body Bd
  obtain ⟨t, o, h1, h2, h3, h4⟩ := body p e s m below meth c s₁ ⟨Bd.exec, Bd.bytes, hml0, findClass_of_methodNamed Bd.named, (name_of_methodNamed Bd.named Bd.method).1, Bd.returns, BodyLoose.notSynchronized Bd, hZ⟩ X0 (by rw [← hh, Bd.state]; rfl)
  exact ⟨t, o, castTop (hent m) h1, h2, h3, h4⟩
theorem ow_retVE {Q : Option Value → Heap → List Loc → Nat → Nat → Prop} (C : OwC p Z s m meth c own nm bytes maxL none) (X : Stand p l e R s m args below meth c T locs cells slots) (hd : decode bytes pc = .ok (.return_, 1))
    (hQ : Q none T.heap locs cells slots) : OwF p e below (OwDE s below Q) T (mkF m pc Ls []) := by
  obtain ⟨hx, hby, -, -, -, hret, hlk, -⟩ := C
  obtain ⟨fs, hr, hrun, hended, hW, hsame⟩ := X.leave (v := none) (fun _ => rfl) hlk
  exact ⟨_, _, X.returnOut hx hret (hb hby hd) hr, hrun, hended, _, _, _, _, rfl, hQ, ⟨_, rfl⟩, hW, hsame⟩
theorem own_backE {y : MethodName} {rm : Room} {len W : Nat} {as' : Array Value} {Q : Option Value → Heap → List Loc → Nat → Nat → Prop} (hM : OwConE l y bytes maxL ret rm Z as' h Q)
    (hZ : Z.Warmed39 s.vm) (wc : (Jvm.Cond.code y bytes maxL ret).before a0 Z = true) (wz : (Jvm.Cond.initialized y.cls).before a0 Z = true) (hf : rm.frames + 1 ≤ R.frames) (hl : W + (maxL + 11) + rm.locals ≤ R.locals) :
    Back l R p e below s args y len W (fun A a => a = as' ∧ A.U.heap = h ∧ A.cells + rm.cells ≤ R.cells ∧ A.slots + rm.slots ≤ R.slots)
      (fun A _ v B => ∃ L kc ks, Q v B.U.heap L kc ks ∧ B.locs = A.locs ++ L ∧ B.cells = A.cells + kc ∧ B.slots = A.slots + ks) :=
  Back.of_freeG (bytes := bytes) (maxL := maxL) (ret := ret) (E := fun _ _ o t L k n => ∃ v, o = .returned v ∧ Q v t.heap L k n) (hM []) hf hl
    (fun m meth c A a Y hp => have hU : Z.Warmed39 A.U.vm := wtrans hZ Y.warmed
      ⟨by show (Jvm.Cond.and _ .tt).before a A.U = true; rw [Cond.before_and, mv hU wc]; rfl, mv hU wc, mv hU wz, hp.2.2.1, hp.2.2.2⟩)
    (fun m meth c A a g mk Y hp => ⟨hp.1, wtrans hZ Y.warmed, hp.2.1⟩) (fun _ _ _ _ _ _ _ _ _ _ => trivial)
    (fun _ _ _ _ ⟨v, L, kc, ks, h1, h2, h3⟩ => ⟨L, kc, ks, h3, v, h1, h2⟩)
    (fun m meth c A a g mk v t L k n Y hp _ _ ⟨v', e3, e4⟩ => by cases e3; exact ⟨L, k, n, e4, rfl, rfl, rfl⟩)
theorem ow_callVE {K : String} {y : MethodName} {by' : ByteArray} {mx : Nat} {rt : Option FieldType} {rm : Room} {Q : Option Value → Heap → List Loc → Nat → Nat → Prop} {stk argsL rest : List Value} {ps : List FieldType} {pr : Option FieldType} {a : Addr}
    (C : OwC p Z s m meth c own nm bytes maxL ret) (X : Stand p l e R s m args below meth c T locs cells slots) (eT : T.heap = h)
    (w1 : (Jvm.Cond.methodLink own index y).before a0 Z = true) (w2 : (Jvm.Cond.declares y).before a0 Z = true) (w5 : (Jvm.Cond.selects K y y).before a0 Z = true) (hK : K = y.cls) (w6 : (Jvm.Cond.instanceMethod y).before a0 Z = true) (w3 : (Jvm.Cond.initialized y.cls).before a0 Z = true) (w4 : (Jvm.Cond.code y by' mx rt).before a0 Z = true)
    (hy : y.cls ≠ "java/lang/invoke/MethodHandle" ∧ y.cls ≠ "java/lang/invoke/VarHandle") (E : Exa Z h a K)
    (M : OwConE l y by' mx rt rm Z (.ref a :: argsL).toArray h Q) (hds : parseMethodDescriptor y.desc = some ⟨ps, pr⟩) (hln : argsL.length = ps.length) (hst : stk = argsL.reverse ++ .ref a :: rest) (hsz : Ls.size = maxL)
    (hd : decode bytes pc = .ok (.invokevirtual index, 3)) (hfr : rm.frames + 1 ≤ R.frames) (hlo : owCat rest + (mx + 11) + rm.locals ≤ R.locals) (hcl : cells + rm.cells ≤ R.cells) (hsl : slots + rm.slots ≤ R.slots) (hp : pc + 3 = pc')
    (k : ∀ T' v L kc ks, Stand p l e R s m args below meth c T' (locs ++ L) (cells + kc) (slots + ks) → Q v T'.heap L kc ks → OwF p e below D T' (mkF m pc' Ls (v.toList ++ rest))) : OwF p e below D T (mkF m pc Ls stk) := by
  subst hp; subst hst; subst hK
  have hZ := C.2.2.2.2.2.2.2
  obtain ⟨cq, kq, q1, q2, q3⟩ := isOf hZ eT E
  obtain ⟨v, _, ⟨T', L', k', n'⟩, -, X', ⟨Lc, kc, ks, hQ, l', y', z'⟩, st⟩ := X.virtualBack C.1 (y := y) (z := y) C.2.2.2.1 (mvT hZ w1) (mvT hZ w2) (notFace_of_selects (args := #[]) (mvT hZ w5)) (mvT hZ w5) (mvT hZ w6) hy (own_backE (W := owCat rest) M hZ w4 w3 hfr hlo) q1 q3 (g := mkF m pc Ls (argsL.reverse ++ .ref a :: rest)) rfl (by rw [C.2.2.1]; exact hsz) (Steps.refl _) (argsL := argsL) (rest := rest) (lenOf hds hln) rfl (by show 2 * 0 + owCat rest ≤ owCat rest; omega) (hb C.2.1 hd) (fun _ _ => ⟨rfl, eT, hcl, hsl⟩)
  dsimp only [Pt.U, Pt.locs, Pt.cells, Pt.slots] at X' l' y' z' st hQ
  subst l' y' z'
  exact OwF.st (fun _ q => st.trans q) (k T' v Lc kc ks X' hQ)
end OwnEx
theorem own_ixI {i : Nat} (h : i < 2147483648) : (Int32.ofNat i).toInt = i := by
  rw [Int32.toInt_ofNat_of_lt]; omega
theorem own_ix0 {i : Nat} (h : i < 2147483648) : ¬ Int32.ofNat i < 0 := by rw [Int32.lt_iff_toInt_lt, own_ixI h]; show ¬ (i : Int) < 0; omega
theorem own_ixN {i : Nat} (h : i < 2147483648) : (Int32.ofNat i).toNatClampNeg = i := by
  show (Int32.ofNat i).toInt.toNat = i
  rw [own_ixI h]; rfl
theorem own_bmI {x : Int} (h : -2147483648 ≤ x ∧ x ≤ 2147483647) : x.bmod (2 ^ 32) = x := by
  rw [Int.bmod_eq_of_le (by omega) (by omega)]
theorem own_bmL {x : Int} (h : -9223372036854775808 ≤ x ∧ x ≤ 9223372036854775807) : x.bmod (2 ^ 64) = x := by
  rw [Int.bmod_eq_of_le (by omega) (by omega)]
theorem own_inc (u : Nat) : Int32.ofNat u + 1 = Int32.ofNat (u + 1) := by rw [Int32.ofNat_add]; rfl
theorem own_dec (u : Nat) : Int32.ofNat (u + 1) - 1 = Int32.ofNat u := by
  have : (1 : Int32) = Int32.ofNat 1 := rfl
  rw [Int32.ofNat_add, this]; generalize Int32.ofNat u = x; grind
theorem own_up {u : Nat} (h : 0 < u) (h3 : u < 2147483648) : (0 : Int32) < Int32.ofNat u := by rw [Int32.lt_iff_toInt_lt, own_ixI h3]; show (0 : Int) < u; omega
theorem own_nup : ¬ (0 : Int32) < Int32.ofNat 0 := by decide
theorem own_eqN {a b : Nat} (ha : a < 2147483648) (hb : b < 2147483648) : Int32.ofNat a = Int32.ofNat b ↔ a = b := by
  refine ⟨fun h => ?_, fun h => by rw [h]⟩
  have := congrArg Int32.toInt h
  rw [own_ixI ha, own_ixI hb] at this; omega
theorem own_ltN {a b : Nat} (ha : a < 2147483648) (hb : b < 2147483648) : Int32.ofNat a < Int32.ofNat b ↔ a < b := by
  rw [Int32.lt_iff_toInt_lt, own_ixI ha, own_ixI hb]; omega
theorem own_remN {x n : Nat} (hn : 0 < n) (hx : x < 2147483648) (hn2 : n < 2147483648) : Int32.ofNat x - (Int32.ofNat x / Int32.ofNat n) * Int32.ofNat n = Int32.ofNat (x % n) := by
  have h1 : x / n ≤ x := Nat.div_le_self x n
  have h2 : n * (x / n) + x % n = x := Nat.div_add_mod x n
  have h4 := Nat.mod_lt x hn
  have hd : Int32.ofNat x / Int32.ofNat n = Int32.ofNat (x / n) := by
    apply Int32.toInt_inj.mp
    rw [Int32.toInt_div, own_ixI hx, own_ixI hn2, own_ixI (Nat.lt_of_le_of_lt h1 hx), Int.tdiv_eq_ediv_of_nonneg (Int.natCast_nonneg _), ← Int.natCast_ediv]
    generalize x / n = q at *
    rw [own_bmI (by omega)]
  rw [hd]
  generalize hq : x / n = q at *
  generalize hr : x % n = r at *
  apply Int32.toInt_inj.mp
  rw [Int32.toInt_sub, Int32.toInt_mul, own_ixI hx, own_ixI hn2, own_ixI (by omega), own_ixI (show r < 2147483648 by omega)]
  have h5 : ((q : Nat) : Int) * (n : Int) = ((n * q : Nat) : Int) := by rw [Int.natCast_mul, Int.mul_comm]
  rw [h5]
  generalize n * q = z at *
  rw [own_bmI (x := ((z : Nat) : Int)) (by omega), own_bmI (by omega)]
  omega
theorem own_sub1 {x : Nat} (h : 0 < x) : Int32.ofNat 0 + Int32.ofNat x - 1 = Int32.ofNat (x - 1) := by
  obtain ⟨y, rfl⟩ : ∃ y, x = y + 1 := ⟨x - 1, by omega⟩
  rw [show Int32.ofNat 0 + Int32.ofNat (y + 1) = Int32.ofNat (y + 1) by rw [← Int32.ofNat_add, Nat.zero_add], own_dec]; rfl
theorem own_add0 (x : Nat) : Int32.ofNat 0 + Int32.ofNat x = Int32.ofNat x := by rw [← Int32.ofNat_add, Nat.zero_add]
/-- the ring's next length -/
def own_nn (n ms : Nat) : Nat := min (max 4 (2 * n)) ms
theorem own_nn32 {n ms : Nat} (hn : n < 1000000) (hm : ms < 1000000) : (if Int32.ofNat ms < (if (4 : Int32) < (2 : Int32) * Int32.ofNat n then (2 : Int32) * Int32.ofNat n else (4 : Int32)) then Int32.ofNat ms else (if (4 : Int32) < (2 : Int32) * Int32.ofNat n then (2 : Int32) * Int32.ofNat n else (4 : Int32))) = Int32.ofNat (own_nn n ms) := by
  have h2 : (2 : Int32) * Int32.ofNat n = Int32.ofNat (2 * n) := by rw [Int32.ofNat_mul]; rfl
  have h4 : (4 : Int32) = Int32.ofNat 4 := rfl
  unfold own_nn
  rw [h2, h4]
  by_cases e : 4 < 2 * n
  · rw [if_pos ((own_ltN (by omega) (by omega)).mpr e), show max 4 (2 * n) = 2 * n by omega]
    by_cases e2 : ms < 2 * n
    · rw [if_pos ((own_ltN (by omega) (by omega)).mpr e2), show min (2 * n) ms = ms by omega]
    · rw [if_neg (fun w => e2 ((own_ltN (by omega) (by omega)).mp w)), show min (2 * n) ms = 2 * n by omega]
  · rw [if_neg (fun w => e ((own_ltN (by omega) (by omega)).mp w)), show max 4 (2 * n) = 4 by omega]
    by_cases e2 : ms < 4
    · rw [if_pos ((own_ltN (by omega) (by omega)).mpr e2), show min 4 ms = ms by omega]
    · rw [if_neg (fun w => e2 ((own_ltN (by omega) (by omega)).mp w)), show min 4 ms = 4 by omega]
/-- what slots i, i+1 .. u-1 hold: each P but the newest (nf) and the one at p (pf) -/
def own_G (P : Int) (u : Nat) (nf pf p : Int) (i : Nat) : Int := if u ≤ i then 0 else ((u - 1 - i : Nat) : Int) * P + nf - (if (i : Int) ≤ p then P - pf else 0)
def OwV (P : Int) (n ms u : Nat) (nf pf p : Int) : Prop := u ≤ n ∧ n ≤ ms ∧ (0 < u → 1 ≤ nf ∧ nf ≤ P) ∧ (p = -1 ∨ (0 ≤ p ∧ p + 2 ≤ u ∧ 1 ≤ pf ∧ pf < P))
theorem own_Gz {P nf pf p : Int} {u i : Nat} (h : u ≤ i) : own_G P u nf pf p i = 0 := if_pos h
theorem own_Gp {P nf pf p : Int} {u i : Nat} (h : i < u) : own_G P u nf pf p i = ((u - 1 - i : Nat) : Int) * P + nf - (if (i : Int) ≤ p then P - pf else 0) := if_neg (by omega)
/-- the fill of slot i -/
theorem own_Gs {P nf pf p : Int} {n ms u i : Nat} (V : OwV P n ms u nf pf p) (hP : 1 ≤ P) (h : i < u) : own_G P u nf pf p (i + 1) + 1 ≤ own_G P u nf pf p i := by
  obtain ⟨-, -, v3, v4⟩ := V
  have w := v3 (by omega)
  rw [own_Gp h]
  by_cases e : i + 1 < u
  · rw [own_Gp e]
    have e2 : ((u - 1 - i : Nat) : Int) * P = ((u - 1 - (i + 1) : Nat) : Int) * P + P := by
      rw [show u - 1 - i = (u - 1 - (i + 1)) + 1 by omega, Int.natCast_add, Int.add_mul]; simp
    rw [e2]
    rcases v4 with q | ⟨q1, q2, q3, q4⟩
    · rw [if_neg (by omega), if_neg (by omega)]; omega
    · by_cases e3 : ((i + 1 : Nat) : Int) ≤ p
      · rw [if_pos e3, if_pos (by omega)]; omega
      · rw [if_neg e3]
        by_cases e4 : (i : Int) ≤ p
        · rw [if_pos e4]; omega
        · rw [if_neg e4]; omega
  · rw [own_Gz (by omega), show u - 1 - i = 0 by omega]
    have e3 : ¬ (i : Int) ≤ p := by omega
    rw [if_neg e3]; simp; omega
theorem own_Gm {P nf pf p : Int} {n ms u : Nat} (V : OwV P n ms u nf pf p) (hP : 1 ≤ P) : ∀ d i : Nat, own_G P u nf pf p (i + d) ≤ own_G P u nf pf p i := by
  intro d
  induction d with
  | zero => intro i; exact Int.le_refl _
  | succ d ih =>
    intro i
    have h1 := ih i
    by_cases e : i + d < u
    · have := own_Gs V hP e
      rw [show i + (d + 1) = i + d + 1 by omega]; omega
    · rw [own_Gz (i := i + (d + 1)) (by omega)]
      rw [own_Gz (i := i + d) (by omega)] at h1; exact h1
theorem own_Gn {P nf pf p : Int} {n ms u : Nat} (V : OwV P n ms u nf pf p) (hP : 1 ≤ P) {i j : Nat} (h : i ≤ j) : own_G P u nf pf p j ≤ own_G P u nf pf p i := by
  have := own_Gm V hP (j - i) i; rwa [show i + (j - i) = j by omega] at this
/-- what an adding of N at t has done so far (rem is left), from u0 slots, their times T0 and sums G0 -/
def OwLp (P : Int) (n ms u : Nat) (nf pf p : Int) (T : Nat → Int64) (Lim N rem : Int) (t : Int64) (u0 : Nat) (T0 : Nat → Int64) (G0 : Nat → Int) : Prop :=
  OwV P n ms u nf pf p ∧ 0 ≤ rem ∧ rem ≤ N ∧ own_G P u nf pf p 0 + rem ≤ Lim ∧ ∃ k, k ≤ u0 ∧ k ≤ u ∧ (∀ i, i ≤ k → own_G P u nf pf p i = G0 i + (N - rem)) ∧ N - rem ≤ own_G P u nf pf p k ∧ own_G P u nf pf p k ≤ N - rem + P - 1 ∧ (N - rem = 0 → k = u ∧ u = u0) ∧ (0 < N - rem → k < u) ∧ (∀ j, j < k → T j = T0 j) ∧ (∀ j, k ≤ j → j < u → T j = t)
theorem OwLp.start {P : Int} {n ms u : Nat} {nf pf p : Int} {T : Nat → Int64} {Lim N : Int} {t : Int64} (V : OwV P n ms u nf pf p) (hP : 1 ≤ P) (hN : 0 ≤ N) (hL : own_G P u nf pf p 0 + N ≤ Lim) : OwLp P n ms u nf pf p T Lim N N t u T (own_G P u nf pf p) := by
  refine ⟨V, hN, Int.le_refl _, hL, u, Nat.le_refl _, Nat.le_refl _, fun i _ => by omega, by rw [own_Gz (Nat.le_refl _)]; omega, by rw [own_Gz (Nat.le_refl _)]; omega, fun _ => ⟨rfl, rfl⟩, fun h => by omega, fun _ _ => rfl, fun j h1 h2 => by omega⟩
theorem OwLp.fill {P : Int} {n ms u : Nat} {nf pf p : Int} {T T' : Nat → Int64} {Lim N rem : Int} {t : Int64} {u0 : Nat} {T0 : Nat → Int64} {G0 : Nat → Int} {nf' rem' : Int} (H : OwLp P n ms u nf pf p T Lim N rem t u0 T0 G0) (hP : 1 ≤ P) (hu : 0 < u) (hf : nf < P) (hr : 0 < rem)
    (h1 : nf' = nf + (rem - rem')) (h2 : rem' < rem) (h3 : 0 ≤ rem') (h4 : nf' ≤ P) (hT : ∀ j, j + 1 < u → T' j = T j) (hT2 : T' (u - 1) = t) : OwLp P n ms u nf' pf p T' Lim N rem' t u0 T0 G0 := by
  obtain ⟨V, a1, a2, a3, k, b1, b2, b3, b4, b5, b6, b7, b8, b9⟩ := H
  have V' : OwV P n ms u nf' pf p := ⟨V.1, V.2.1, fun _ => by have := V.2.2.1 hu; omega, V.2.2.2⟩
  have hG : ∀ i, i < u → own_G P u nf' pf p i = own_G P u nf pf p i + (rem - rem') := fun i hi => by rw [own_Gp hi, own_Gp hi]; omega
  refine ⟨V', h3, by omega, by rw [hG 0 hu]; omega, ?_⟩
  by_cases e : k < u
  · refine ⟨k, b1, b2, fun i hi => by rw [hG i (by omega), b3 i hi]; omega, by rw [hG k e]; omega, by rw [hG k e]; omega, fun w => by omega, fun _ => e, fun j hj => by rw [hT j (by omega)]; exact b8 j hj, fun j hj1 hj2 => ?_⟩
    by_cases e2 : j + 1 < u
    · rw [hT j e2]; exact b9 j hj1 (by omega)
    · rw [show j = u - 1 by omega]; exact hT2
  · have hd : N - rem = 0 := by
      rcases Int.lt_or_le 0 (N - rem) with w | w
      · exact absurd (b7 w) e
      · omega
    obtain ⟨q1, q2⟩ := b6 hd
    refine ⟨u - 1, by omega, by omega, fun i hi => by rw [hG i (by omega), b3 i (by omega)]; omega, ?_, ?_, fun w => by omega, fun _ => by omega, fun j hj => by rw [hT j (by omega)]; exact b8 j (by omega), fun j hj1 hj2 => by rw [show j = u - 1 by omega]; exact hT2⟩
    · rw [hG (u - 1) (by omega), own_Gp (by omega)]
      rcases V.2.2.2 with q | q
      · rw [show u - 1 - (u - 1) = 0 by omega, if_neg (by omega)]; have := V.2.2.1 hu; simp; omega
      · rw [show u - 1 - (u - 1) = 0 by omega, if_neg (by omega)]; have := V.2.2.1 hu; simp; omega
    · rw [hG (u - 1) (by omega), own_Gp (by omega)]
      rcases V.2.2.2 with q | q
      · rw [show u - 1 - (u - 1) = 0 by omega, if_neg (by omega)]; simp; omega
      · rw [show u - 1 - (u - 1) = 0 by omega, if_neg (by omega)]; simp; omega
theorem OwLp.new {P : Int} {n n' ms u : Nat} {nf pf p : Int} {T T' : Nat → Int64} {Lim N rem : Int} {t : Int64} {u0 : Nat} {T0 : Nat → Int64} {G0 : Nat → Int} {nf' pf' p' rem' : Int} (H : OwLp P n ms u nf pf p T Lim N rem t u0 T0 G0) (hP : 1 ≤ P)
    (hc : u = 0 ∧ p' = p ∧ pf' = pf ∨ (0 < u ∧ nf = P ∧ p' = p ∧ pf' = pf) ∨ (0 < u ∧ nf < P ∧ p = -1 ∧ p' = (u : Int) - 1 ∧ pf' = nf)) (hn : u + 1 ≤ n') (hn2 : n' ≤ ms) (hr : 0 < rem) (h1 : nf' = rem - rem') (h2 : rem' < rem) (h3 : 0 ≤ rem') (h4 : nf' ≤ P)
    (hT : ∀ j, j < u → T' j = T j) (hT2 : T' u = t) : OwLp P n' ms (u + 1) nf' pf' p' T' Lim N rem' t u0 T0 G0 := by
  obtain ⟨V, a1, a2, a3, k, b1, b2, b3, b4, b5, b6, b7, b8, b9⟩ := H
  have v4 := V.2.2.2
  have v3 := V.2.2.1
  have V' : OwV P n' ms (u + 1) nf' pf' p' := by
    refine ⟨hn, hn2, fun _ => by omega, ?_⟩
    rcases hc with ⟨e1, e2, e3⟩ | ⟨e0, e1, e2, e3⟩ | ⟨e0, e1, e2, e3, e4⟩
    · rcases v4 with q | q
      · exact Or.inl (by omega)
      · omega
    · rcases v4 with q | q
      · exact Or.inl (by omega)
      · exact Or.inr (by omega)
    · have := v3 e0; exact Or.inr (by omega)
  have hG : ∀ i, i ≤ u → own_G P (u + 1) nf' pf' p' i = own_G P u nf pf p i + (rem - rem') := fun i hi => by
    rw [own_Gp (show i < u + 1 by omega)]
    by_cases e : i < u
    · rw [own_Gp e]
      have e2 : ((u + 1 - 1 - i : Nat) : Int) * P = ((u - 1 - i : Nat) : Int) * P + P := by
        rw [show u + 1 - 1 - i = (u - 1 - i) + 1 by omega, Int.natCast_add, Int.add_mul]; simp
      rw [e2]
      rcases hc with ⟨e1, -, -⟩ | ⟨e0, e1, e2, e3⟩ | ⟨e0, e1, e2, e3, e4⟩
      · omega
      · rw [e2, e3]; omega
      · rw [if_pos (show (i : Int) ≤ p' by omega), if_neg (show ¬ (i : Int) ≤ p by omega)]; omega
    · rw [own_Gz (show u ≤ i by omega), show u + 1 - 1 - i = 0 by omega, if_neg (by rcases V'.2.2.2 with q | q <;> omega)]; simp; omega
  refine ⟨V', h3, by omega, by rw [hG 0 (by omega)]; omega, k, b1, by omega, fun i hi => by rw [hG i (by omega), b3 i hi]; omega, by rw [hG k b2]; omega, by rw [hG k b2]; omega, fun w => by omega, fun _ => by omega, fun j hj => by rw [hT j (by omega)]; exact b8 j hj, fun j hj1 hj2 => ?_⟩
  by_cases e : j < u
  · rw [hT j e]
    have hd : ¬ (N - rem = 0) := fun w => by have := b6 w; omega
    exact b9 j hj1 e
  · rw [show j = u by omega]; exact hT2
/-- a new slot has a place -/
theorem OwLp.room {P : Int} {n ms u : Nat} {nf pf p : Int} {T : Nat → Int64} {Lim N rem : Int} {t : Int64} {u0 : Nat} {T0 : Nat → Int64} {G0 : Nat → Int} (H : OwLp P n ms u nf pf p T Lim N rem t u0 T0 G0) (hP : 1 ≤ P) (hm : Lim ≤ ((ms - 1 : Nat) : Int) * P) (hm2 : 2 ≤ ms) (hr : 0 < rem) (hc : u = 0 ∨ nf = P ∨ p = -1) : u < ms := by
  obtain ⟨V, a1, a2, a3, -⟩ := H
  rcases Nat.eq_zero_or_pos u with hu | hu
  · omega
  · have v3 := V.2.2.1 hu
    rw [own_Gp hu] at a3
    have h1 : ((u - 1 - 0 : Nat) : Int) * P + 1 ≤ Lim := by
      rcases V.2.2.2 with q | q
      · rw [if_neg (by omega)] at a3; omega
      · rw [if_pos (by omega)] at a3; omega
    have h2 : ((u - 1 - 0 : Nat) : Int) * P < ((ms - 1 : Nat) : Int) * P := by omega
    have h3 := Int.lt_of_mul_lt_mul_right h2 (by omega)
    omega
theorem own_fin {P : Int} (hP : 1 ≤ P) {a b c : Int} {n1 n2 n3 ms u1 u2 u3 : Nat} {f1 f2 f3 q1 q2 q3 p1 p2 p3 : Int} {T1 T2 T3 : Nat → Int64} {t0 t1 t2 : Int64} {L1 L2 L3 : Int} {f0 q0 p0 : Int} {T0 : Nat → Int64}
    (A1 : OwLp P n1 ms u1 f1 q1 p1 T1 L1 a 0 t0 0 T0 (own_G P 0 f0 q0 p0)) (A2 : OwLp P n2 ms u2 f2 q2 p2 T2 L2 b 0 t1 u1 T1 (own_G P u1 f1 q1 p1)) (A3 : OwLp P n3 ms u3 f3 q3 p3 T3 L3 c 0 t2 u2 T2 (own_G P u2 f2 q2 p2))
    {F : Int64 → Prop} (m1 : F t0 → F t1) (m2 : F t1 → F t2) {d : Nat} (hd : d ≤ u3) (Hd : ∀ j, j < d → ¬ F (T3 j)) (He : d = u3 ∨ F (T3 d)) (w0 w1 w2 : Int) (e0 : F t0 ∧ w0 = a ∨ ¬ F t0 ∧ w0 = 0) (e1 : F t1 ∧ w1 = b ∨ ¬ F t1 ∧ w1 = 0) (e2 : F t2 ∧ w2 = c ∨ ¬ F t2 ∧ w2 = 0) :
    own_G P u3 f3 q3 p3 0 = a + b + c ∧ w0 + w1 + w2 ≤ own_G P u3 f3 q3 p3 d ∧ own_G P u3 f3 q3 p3 d ≤ a + b + c ∧ own_G P u3 f3 q3 p3 d ≤ w0 + w1 + w2 + P - 1 ∧ (w0 + w1 + w2 = 0 → own_G P u3 f3 q3 p3 d = 0) := by
  obtain ⟨V1, -, a1n, -, k1, x1, x2, x3, x4, x5, x6, x7, x8, x9⟩ := A1
  obtain ⟨V2, -, a2n, -, k2, y1, y2, y3, y4, y5, y6, y7, y8, y9⟩ := A2
  obtain ⟨V3, -, a3n, -, k3, z1, z2, z3, z4, z5, z6, z7, z8, z9⟩ := A3
  have k10 : k1 = 0 := by omega
  subst k10
  have g1 : own_G P u1 f1 q1 p1 0 = a := by rw [x3 0 (by omega), own_Gz (Nat.zero_le _)]; omega
  have g2 : own_G P u2 f2 q2 p2 0 = a + b := by rw [y3 0 (by omega), g1]; omega
  have g3 : own_G P u3 f3 q3 p3 0 = a + b + c := by rw [z3 0 (by omega), g2]; omega
  have hm := own_Gn V3 hP (Nat.zero_le d)
  -- times
  have tt1 : ∀ j, j < u1 → T1 j = t0 := fun j hj => x9 j (Nat.zero_le _) hj
  have tt2 : ∀ j, j < u2 → (j < k2 ∧ T2 j = t0) ∨ (k2 ≤ j ∧ T2 j = t1) := fun j hj => by
    by_cases e : j < k2
    · exact Or.inl ⟨e, by rw [y8 j e]; exact tt1 j (by omega)⟩
    · exact Or.inr ⟨by omega, y9 j (by omega) hj⟩
  have tt3 : ∀ j, j < u3 → (j < k3 ∧ j < k2 ∧ T3 j = t0) ∨ (j < k3 ∧ k2 ≤ j ∧ T3 j = t1) ∨ (k3 ≤ j ∧ T3 j = t2) := fun j hj => by
    by_cases e : j < k3
    · rcases tt2 j (by omega) with ⟨q, w⟩ | ⟨q, w⟩
      · exact Or.inl ⟨e, q, by rw [z8 j e]; exact w⟩
      · exact Or.inr (Or.inl ⟨e, q, by rw [z8 j e]; exact w⟩)
    · exact Or.inr (Or.inr ⟨by omega, z9 j (by omega) hj⟩)
  refine ⟨g3, ?_⟩
  by_cases F0 : F t0
  · have F1 := m1 F0
    have F2 := m2 F1
    have hd0 : d = 0 := by
      rcases Nat.eq_zero_or_pos d with q | q
      · exact q
      · exfalso
        rcases tt3 0 (by omega) with ⟨-, -, w⟩ | ⟨-, -, w⟩ | ⟨-, w⟩
        · exact Hd 0 q (by rw [w]; exact F0)
        · exact Hd 0 q (by rw [w]; exact F1)
        · exact Hd 0 q (by rw [w]; exact F2)
    subst hd0
    have h0 : w0 = a := e0.elim (fun q => q.2) (fun q => absurd F0 q.1)
    have h1 : w1 = b := e1.elim (fun q => q.2) (fun q => absurd F1 q.1)
    have h2 : w2 = c := e2.elim (fun q => q.2) (fun q => absurd F2 q.1)
    rw [g3, h0, h1, h2]; omega
  · have h0 : w0 = 0 := e0.elim (fun q => absurd q.1 F0) (fun q => q.2)
    by_cases F1 : F t1
    · have F2 := m2 F1
      have h1 : w1 = b := e1.elim (fun q => q.2) (fun q => absurd F1 q.1)
      have h2 : w2 = c := e2.elim (fun q => q.2) (fun q => absurd F2 q.1)
      have hdk : d = min k2 k3 := by
        rcases Nat.lt_trichotomy d (min k2 k3) with q | q | q
        · exfalso
          rcases He with w | w
          · omega
          · rcases tt3 d (by omega) with ⟨-, -, v⟩ | ⟨-, v1, -⟩ | ⟨v1, -⟩
            · rw [v] at w; exact F0 w
            · omega
            · omega
        · exact q
        · exfalso
          have hx := Hd (min k2 k3) q
          rcases tt3 (min k2 k3) (by omega) with ⟨v1, v2, -⟩ | ⟨-, -, v⟩ | ⟨-, v⟩
          · omega
          · exact hx (by rw [v]; exact F1)
          · exact hx (by rw [v]; exact F2)
      rw [h0, h1, h2]
      by_cases e : k2 ≤ k3
      · rw [show d = k2 by omega] at hm ⊢
        have q := z3 k2 e
        refine ⟨by omega, by omega, by omega, fun w => ?_⟩
        have b0 : b = 0 := by omega
        have c0 : c = 0 := by omega
        have := (y6 (by omega)).1
        have := (z6 (by omega)).1
        exact own_Gz (by omega)
      · rw [show d = k3 by omega] at hm ⊢
        have q := z3 k3 (Nat.le_refl _)
        have q2 := own_Gn V2 hP (show k3 ≤ k2 by omega)
        refine ⟨by omega, by omega, by omega, fun w => ?_⟩
        have := (z6 (by omega)).1
        exact own_Gz (by omega)
    · have h1 : w1 = 0 := e1.elim (fun q => absurd q.1 F1) (fun q => q.2)
      by_cases F2 : F t2
      · have h2 : w2 = c := e2.elim (fun q => q.2) (fun q => absurd F2 q.1)
        have hdk : d = k3 := by
          rcases Nat.lt_trichotomy d k3 with q | q | q
          · exfalso
            rcases He with w | w
            · omega
            · rcases tt3 d (by omega) with ⟨-, -, v⟩ | ⟨-, -, v⟩ | ⟨v1, -⟩
              · rw [v] at w; exact F0 w
              · rw [v] at w; exact F1 w
              · omega
          · exact q
          · exfalso
            have hx := Hd k3 q
            rcases tt3 k3 (by omega) with ⟨v1, -, -⟩ | ⟨v1, -, -⟩ | ⟨-, v⟩
            · omega
            · omega
            · exact hx (by rw [v]; exact F2)
        rw [h0, h1, h2, hdk]
        rw [hdk] at hm
        refine ⟨by omega, by omega, by omega, fun w => ?_⟩
        have := (z6 (by omega)).1
        exact own_Gz (by omega)
      · have h2 : w2 = 0 := e2.elim (fun q => absurd q.1 F2) (fun q => q.2)
        have hdk : d = u3 := by
          by_cases e : d < u3
          · exfalso
            rcases He with w | w
            · omega
            · rcases tt3 d e with ⟨-, -, v⟩ | ⟨-, -, v⟩ | ⟨-, v⟩
              · rw [v] at w; exact F0 w
              · rw [v] at w; exact F1 w
              · rw [v] at w; exact F2 w
          · omega
        rw [h0, h1, h2, hdk, own_Gz (Nat.le_refl _)]
        rw [hdk, own_Gz (Nat.le_refl _)] at hm
        omega
/-- a window at o: its ring at q of n longs f, the oldest's place a, u slots used -/
def OwR (Z : State) (h : Heap) (n0 : Nat) (o q : Addr) (n : Nat) (f : Nat → Int64) (a u : Nat) (nt nf : Int64) (pp : Int32) (pf per : Int64) (ms : Nat) : Prop := Exa Z h o "com/example/calm_valve/calmvalve/AdmissionWindow" ∧ Fld Z h o "com/example/calm_valve/calmvalve/AdmissionWindow" "m_aSlotTimes" "[J" (.ref q) ∧ Fld Z h o "com/example/calm_valve/calmvalve/AdmissionWindow" "m_nPartial" "I" (.int pp) ∧ Fld Z h o "com/example/calm_valve/calmvalve/AdmissionWindow" "m_nPerSlot" "J" (.long per) ∧ Fld Z h o "com/example/calm_valve/calmvalve/AdmissionWindow" "m_nMaxSlots" "I" (.int (Int32.ofNat ms)) ∧ Fld Z h o "com/example/calm_valve/calmvalve/AdmissionWindow" "m_nUsed" "I" (.int (Int32.ofNat u)) ∧ Fld Z h o "com/example/calm_valve/calmvalve/AdmissionWindow" "m_nOldest" "I" (.int (Int32.ofNat a)) ∧ Fld Z h o "com/example/calm_valve/calmvalve/AdmissionWindow" "m_nPartialFill" "J" (.long pf) ∧ Fld Z h o "com/example/calm_valve/calmvalve/AdmissionWindow" "m_nNewestFill" "J" (.long nf) ∧ Fld Z h o "com/example/calm_valve/calmvalve/AdmissionWindow" "m_nNewestTime" "J" (.long nt) ∧ OwA Z h q .long n (fun j => .long (f j)) ∧ n0 ≤ o ∧ n0 ≤ q ∧ o ≠ q
theorem own_nzN {v n : Nat} (hv : v + 1 ≤ n) (hn : n < 1000000) : ¬ Int32.ofNat n = 0 := fun w => by
  have := (own_eqN (b := 0) (by omega) (by omega)).mp w; omega
theorem own_nzK {k n : Nat} (hk : k < n) (hn : n < 1000000) : ¬ Int32.ofNat n = 0 := own_nzN (v := k) (by omega) hn
theorem own_newest {v n : Nat} (hv : v + 1 ≤ n) (hn : n < 1000000) : (Int32.ofNat 0 + Int32.ofNat (v + 1) - 1) - ((Int32.ofNat 0 + Int32.ofNat (v + 1) - 1) / Int32.ofNat n) * Int32.ofNat n = Int32.ofNat v := by
  rw [own_sub1 (by omega), Nat.add_sub_cancel, own_remN (by omega) (by omega) (by omega), Nat.mod_eq_of_lt (by omega)]
theorem own_xor {k n : Nat} (hk : k < 2147483648) (hn : n < 2147483648) : ¬ (Int32.ofNat k ^^^ Int32.ofNat n) < 0 := by
  have e : ∀ {x : Nat}, x < 2147483648 → (Int32.ofNat x).toBitVec.msb = false := fun {x} hx => by
    rw [BitVec.msb_eq_decide]
    show decide (2 ^ (32 - 1) ≤ (BitVec.ofNat 32 x).toNat) = false
    rw [BitVec.toNat_ofNat]; simp; omega
  rw [Int32.lt_iff_toInt_lt]
  show ¬ (Int32.ofNat k ^^^ Int32.ofNat n).toBitVec.toInt < 0
  rw [Int32.toBitVec_xor, BitVec.toInt_eq_msb_cond, BitVec.msb_xor, e hk, e hn]
  simp
theorem own_nn_gt {n ms : Nat} (h : n < ms) : n < own_nn n ms := by unfold own_nn; omega
theorem own_nn_le (n ms : Nat) : own_nn n ms ≤ ms := by unfold own_nn; omega
theorem d4_0 : decode jdk_29_method_66_code 0 = .ok (.lload_n 0, 1) := by decide +kernel
theorem d4_1 : decode jdk_29_method_66_code 1 = .ok (.lload_n 2, 1) := by decide +kernel
theorem d4_2 : decode jdk_29_method_66_code 2 = .ok (.lcmp, 1) := by decide +kernel
theorem d4_3 : decode jdk_29_method_66_code 3 = .ok (.ifCond .lt 7, 3) := by decide +kernel
theorem d4_6 : decode jdk_29_method_66_code 6 = .ok (.lload_n 0, 1) := by decide +kernel
theorem d4_7 : decode jdk_29_method_66_code 7 = .ok (.goto 4, 3) := by decide +kernel
theorem d4_10 : decode jdk_29_method_66_code 10 = .ok (.lload_n 2, 1) := by decide +kernel
theorem d4_11 : decode jdk_29_method_66_code 11 = .ok (.lreturn, 1) := by decide +kernel
theorem pn_4 : plainFor (⟨"java/lang/Math", "max", "(JJ)J"⟩ : MethodName) = true := by first | exact plainFor_of_name (by first | (simp [plainName, overriddenIn]; done) | decide +kernel) | decide +kernel
theorem pd_0 : parseMethodDescriptor "(JJ)J" = some ⟨[.long, .long], (some .long)⟩ := by decide +kernel
def own_maxJ (q0 : Int64) (q1 : Int64) : Int64 := if q0 < q1 then q1 else q0
set_option maxRecDepth 65536 in
set_option maxHeartbeats 40000000 in
theorem rm_maxJ (l : Launch) (Z : State) (a0 : Array Value) (hw : ∀ d ∈ tables_1, d.before a0 Z = true) (q0 : Int64) (q1 : Int64)  (h0 : Heap)   :
    OwCon l (⟨"java/lang/Math", "max", "(JJ)J"⟩ : MethodName) jdk_29_method_66_code 4 (some .long) ({ frames := 0, cells := 0, slots := 0, locals := 0 } : Room) Z #[(.long q0), (.long q1)] h0 (OwP (some (.long (own_maxJ q0 q1))) h0) := by
  refine OwCon.of pn_4 (Ls := #[.val (.long q0), .second, .val (.long q1), .second]) (fun m => by first | (simp [entryFrame, mkF, argsToLocals, Value.category]; done) | rfl) ?_
  intro p e s m below meth c s₁ C X0 e0
  refine ow_lloadN C X0 d4_0 rfl (pc' := 1) rfl ?_
  refine ow_lloadN C X0 d4_1 rfl (pc' := 2) rfl ?_
  refine ow_lcmp C X0 d4_2 (pc' := 3) rfl ?_
  refine ow_lif_lt C X0 d4_3 (pcT := 10) (pc' := 6) (by decide) (by decide) rfl (fun b3 => ?_) (fun b3 => ?_)
  · refine ow_lloadN C X0 d4_10 rfl (pc' := 11) rfl ?_
    exact ow_retJ C X0 d4_11 (Nat.le_of_ble_eq_true rfl) (Nat.le_of_ble_eq_true rfl) ⟨(show some (Value.long q1) = some (Value.long (own_maxJ q0 q1)) from congrArg (fun z => some (Value.long z)) (by unfold own_maxJ; rw [if_pos b3])), rfl, e0⟩
  · refine ow_lloadN C X0 d4_6 rfl (pc' := 7) rfl ?_
    refine ow_goto C X0 d4_7 (pcT := 11) (by decide) (by decide) ?_
    exact ow_retJ C X0 d4_11 (Nat.le_of_ble_eq_true rfl) (Nat.le_of_ble_eq_true rfl) ⟨(show some (Value.long q0) = some (Value.long (own_maxJ q0 q1)) from congrArg (fun z => some (Value.long z)) (by unfold own_maxJ; rw [if_neg b3])), rfl, e0⟩
theorem d10_0 : decode jdk_29_method_70_code 0 = .ok (.lload_n 0, 1) := by decide +kernel
theorem d10_1 : decode jdk_29_method_70_code 1 = .ok (.lload_n 2, 1) := by decide +kernel
theorem d10_2 : decode jdk_29_method_70_code 2 = .ok (.lcmp, 1) := by decide +kernel
theorem d10_3 : decode jdk_29_method_70_code 3 = .ok (.ifCond .gt 7, 3) := by decide +kernel
theorem d10_6 : decode jdk_29_method_70_code 6 = .ok (.lload_n 0, 1) := by decide +kernel
theorem d10_7 : decode jdk_29_method_70_code 7 = .ok (.goto 4, 3) := by decide +kernel
theorem d10_10 : decode jdk_29_method_70_code 10 = .ok (.lload_n 2, 1) := by decide +kernel
theorem d10_11 : decode jdk_29_method_70_code 11 = .ok (.lreturn, 1) := by decide +kernel
theorem pn_10 : plainFor (⟨"java/lang/Math", "min", "(JJ)J"⟩ : MethodName) = true := by first | exact plainFor_of_name (by first | (simp [plainName, overriddenIn]; done) | decide +kernel) | decide +kernel
def own_minJ (q0 : Int64) (q1 : Int64) : Int64 := if q1 < q0 then q1 else q0
set_option maxRecDepth 65536 in
set_option maxHeartbeats 40000000 in
theorem rm_minJ (l : Launch) (Z : State) (a0 : Array Value) (hw : ∀ d ∈ tables_1, d.before a0 Z = true) (q0 : Int64) (q1 : Int64)  (h0 : Heap)   :
    OwCon l (⟨"java/lang/Math", "min", "(JJ)J"⟩ : MethodName) jdk_29_method_70_code 4 (some .long) ({ frames := 0, cells := 0, slots := 0, locals := 0 } : Room) Z #[(.long q0), (.long q1)] h0 (OwP (some (.long (own_minJ q0 q1))) h0) := by
  refine OwCon.of pn_10 (Ls := #[.val (.long q0), .second, .val (.long q1), .second]) (fun m => by first | (simp [entryFrame, mkF, argsToLocals, Value.category]; done) | rfl) ?_
  intro p e s m below meth c s₁ C X0 e0
  refine ow_lloadN C X0 d10_0 rfl (pc' := 1) rfl ?_
  refine ow_lloadN C X0 d10_1 rfl (pc' := 2) rfl ?_
  refine ow_lcmp C X0 d10_2 (pc' := 3) rfl ?_
  refine ow_lif_gt C X0 d10_3 (pcT := 10) (pc' := 6) (by decide) (by decide) rfl (fun b3 => ?_) (fun b3 => ?_)
  · refine ow_lloadN C X0 d10_10 rfl (pc' := 11) rfl ?_
    exact ow_retJ C X0 d10_11 (Nat.le_of_ble_eq_true rfl) (Nat.le_of_ble_eq_true rfl) ⟨(show some (Value.long q1) = some (Value.long (own_minJ q0 q1)) from congrArg (fun z => some (Value.long z)) (by unfold own_minJ; rw [if_pos b3])), rfl, e0⟩
  · refine ow_lloadN C X0 d10_6 rfl (pc' := 7) rfl ?_
    refine ow_goto C X0 d10_7 (pcT := 11) (by decide) (by decide) ?_
    exact ow_retJ C X0 d10_11 (Nat.le_of_ble_eq_true rfl) (Nat.le_of_ble_eq_true rfl) ⟨(show some (Value.long q0) = some (Value.long (own_minJ q0 q1)) from congrArg (fun z => some (Value.long z)) (by unfold own_minJ; rw [if_neg b3])), rfl, e0⟩
theorem d8_0 : decode jdk_29_method_65_code 0 = .ok (.iload_n 0, 1) := by decide +kernel
theorem d8_1 : decode jdk_29_method_65_code 1 = .ok (.iload_n 1, 1) := by decide +kernel
theorem d8_2 : decode jdk_29_method_65_code 2 = .ok (.if_icmp .lt 7, 3) := by decide +kernel
theorem d8_5 : decode jdk_29_method_65_code 5 = .ok (.iload_n 0, 1) := by decide +kernel
theorem d8_6 : decode jdk_29_method_65_code 6 = .ok (.goto 4, 3) := by decide +kernel
theorem d8_9 : decode jdk_29_method_65_code 9 = .ok (.iload_n 1, 1) := by decide +kernel
theorem d8_10 : decode jdk_29_method_65_code 10 = .ok (.ireturn, 1) := by decide +kernel
theorem pn_8 : plainFor (⟨"java/lang/Math", "max", "(II)I"⟩ : MethodName) = true := by first | exact plainFor_of_name (by first | (simp [plainName, overriddenIn]; done) | decide +kernel) | decide +kernel
theorem pd_1 : parseMethodDescriptor "(II)I" = some ⟨[.int, .int], (some .int)⟩ := by decide +kernel
def own_max (q0 : Int32) (q1 : Int32) : Int32 := if q0 < q1 then q1 else q0
set_option maxRecDepth 65536 in
set_option maxHeartbeats 40000000 in
theorem rm_max (l : Launch) (Z : State) (a0 : Array Value) (hw : ∀ d ∈ tables_1, d.before a0 Z = true) (q0 : Int32) (q1 : Int32)  (h0 : Heap)   :
    OwCon l (⟨"java/lang/Math", "max", "(II)I"⟩ : MethodName) jdk_29_method_65_code 2 (some .int) ({ frames := 0, cells := 0, slots := 0, locals := 0 } : Room) Z #[(.int q0), (.int q1)] h0 (OwP (some (.int (own_max q0 q1))) h0) := by
  refine OwCon.of pn_8 (Ls := #[.val (.int q0), .val (.int q1)]) (fun m => by first | (simp [entryFrame, mkF, argsToLocals, Value.category]; done) | rfl) ?_
  intro p e s m below meth c s₁ C X0 e0
  refine ow_iloadN C X0 d8_0 rfl (pc' := 1) rfl ?_
  refine ow_iloadN C X0 d8_1 rfl (pc' := 2) rfl ?_
  refine ow_icmp_lt C X0 d8_2 (pcT := 9) (pc' := 5) (by decide) (by decide) rfl (fun b2 => ?_) (fun b2 => ?_)
  · refine ow_iloadN C X0 d8_9 rfl (pc' := 10) rfl ?_
    exact ow_retI C X0 d8_10 (Nat.le_of_ble_eq_true rfl) (Nat.le_of_ble_eq_true rfl) ⟨(show some (Value.int q1) = some (Value.int (own_max q0 q1)) from congrArg (fun z => some (Value.int z)) (by unfold own_max; rw [if_pos b2])), rfl, e0⟩
  · refine ow_iloadN C X0 d8_5 rfl (pc' := 6) rfl ?_
    refine ow_goto C X0 d8_6 (pcT := 10) (by decide) (by decide) ?_
    exact ow_retI C X0 d8_10 (Nat.le_of_ble_eq_true rfl) (Nat.le_of_ble_eq_true rfl) ⟨(show some (Value.int q0) = some (Value.int (own_max q0 q1)) from congrArg (fun z => some (Value.int z)) (by unfold own_max; rw [if_neg b2])), rfl, e0⟩
theorem d9_0 : decode jdk_29_method_69_code 0 = .ok (.iload_n 0, 1) := by decide +kernel
theorem d9_1 : decode jdk_29_method_69_code 1 = .ok (.iload_n 1, 1) := by decide +kernel
theorem d9_2 : decode jdk_29_method_69_code 2 = .ok (.if_icmp .gt 7, 3) := by decide +kernel
theorem d9_5 : decode jdk_29_method_69_code 5 = .ok (.iload_n 0, 1) := by decide +kernel
theorem d9_6 : decode jdk_29_method_69_code 6 = .ok (.goto 4, 3) := by decide +kernel
theorem d9_9 : decode jdk_29_method_69_code 9 = .ok (.iload_n 1, 1) := by decide +kernel
theorem d9_10 : decode jdk_29_method_69_code 10 = .ok (.ireturn, 1) := by decide +kernel
theorem pn_9 : plainFor (⟨"java/lang/Math", "min", "(II)I"⟩ : MethodName) = true := by first | exact plainFor_of_name (by first | (simp [plainName, overriddenIn]; done) | decide +kernel) | decide +kernel
def own_min (q0 : Int32) (q1 : Int32) : Int32 := if q1 < q0 then q1 else q0
set_option maxRecDepth 65536 in
set_option maxHeartbeats 40000000 in
theorem rm_min (l : Launch) (Z : State) (a0 : Array Value) (hw : ∀ d ∈ tables_1, d.before a0 Z = true) (q0 : Int32) (q1 : Int32)  (h0 : Heap)   :
    OwCon l (⟨"java/lang/Math", "min", "(II)I"⟩ : MethodName) jdk_29_method_69_code 2 (some .int) ({ frames := 0, cells := 0, slots := 0, locals := 0 } : Room) Z #[(.int q0), (.int q1)] h0 (OwP (some (.int (own_min q0 q1))) h0) := by
  refine OwCon.of pn_9 (Ls := #[.val (.int q0), .val (.int q1)]) (fun m => by first | (simp [entryFrame, mkF, argsToLocals, Value.category]; done) | rfl) ?_
  intro p e s m below meth c s₁ C X0 e0
  refine ow_iloadN C X0 d9_0 rfl (pc' := 1) rfl ?_
  refine ow_iloadN C X0 d9_1 rfl (pc' := 2) rfl ?_
  refine ow_icmp_gt C X0 d9_2 (pcT := 9) (pc' := 5) (by decide) (by decide) rfl (fun b2 => ?_) (fun b2 => ?_)
  · refine ow_iloadN C X0 d9_9 rfl (pc' := 10) rfl ?_
    exact ow_retI C X0 d9_10 (Nat.le_of_ble_eq_true rfl) (Nat.le_of_ble_eq_true rfl) ⟨(show some (Value.int q1) = some (Value.int (own_min q0 q1)) from congrArg (fun z => some (Value.int z)) (by unfold own_min; rw [if_pos b2])), rfl, e0⟩
  · refine ow_iloadN C X0 d9_5 rfl (pc' := 6) rfl ?_
    refine ow_goto C X0 d9_6 (pcT := 10) (by decide) (by decide) ?_
    exact ow_retI C X0 d9_10 (Nat.le_of_ble_eq_true rfl) (Nat.le_of_ble_eq_true rfl) ⟨(show some (Value.int q0) = some (Value.int (own_min q0 q1)) from congrArg (fun z => some (Value.int z)) (by unfold own_min; rw [if_neg b2])), rfl, e0⟩
theorem d5_0 : decode prog_1_method_3_code 0 = .ok (.aload_n 0, 1) := by decide +kernel
theorem d5_1 : decode prog_1_method_3_code 1 = .ok (.getfield 13, 3) := by decide +kernel
theorem d5_4 : decode prog_1_method_3_code 4 = .ok (.ifCond .ge 7, 3) := by decide +kernel
theorem d5_7 : decode prog_1_method_3_code 7 = .ok (.lconst 0, 1) := by decide +kernel
theorem d5_8 : decode prog_1_method_3_code 8 = .ok (.goto 12, 3) := by decide +kernel
theorem d5_11 : decode prog_1_method_3_code 11 = .ok (.aload_n 0, 1) := by decide +kernel
theorem d5_12 : decode prog_1_method_3_code 12 = .ok (.getfield 28, 3) := by decide +kernel
theorem d5_15 : decode prog_1_method_3_code 15 = .ok (.aload_n 0, 1) := by decide +kernel
theorem d5_16 : decode prog_1_method_3_code 16 = .ok (.getfield 50, 3) := by decide +kernel
theorem d5_19 : decode prog_1_method_3_code 19 = .ok (.lsub, 1) := by decide +kernel
theorem d5_20 : decode prog_1_method_3_code 20 = .ok (.lstore_n 1, 1) := by decide +kernel
theorem d5_21 : decode prog_1_method_3_code 21 = .ok (.aload_n 0, 1) := by decide +kernel
theorem d5_22 : decode prog_1_method_3_code 22 = .ok (.getfield 35, 3) := by decide +kernel
theorem d5_25 : decode prog_1_method_3_code 25 = .ok (.ifCond .ne 7, 3) := by decide +kernel
theorem d5_28 : decode prog_1_method_3_code 28 = .ok (.lconst 0, 1) := by decide +kernel
theorem d5_29 : decode prog_1_method_3_code 29 = .ok (.goto 22, 3) := by decide +kernel
theorem d5_32 : decode prog_1_method_3_code 32 = .ok (.aload_n 0, 1) := by decide +kernel
theorem d5_33 : decode prog_1_method_3_code 33 = .ok (.getfield 35, 3) := by decide +kernel
theorem d5_36 : decode prog_1_method_3_code 36 = .ok (.iconst 1, 1) := by decide +kernel
theorem d5_37 : decode prog_1_method_3_code 37 = .ok (.isub, 1) := by decide +kernel
theorem d5_38 : decode prog_1_method_3_code 38 = .ok (.i2l, 1) := by decide +kernel
theorem d5_39 : decode prog_1_method_3_code 39 = .ok (.aload_n 0, 1) := by decide +kernel
theorem d5_40 : decode prog_1_method_3_code 40 = .ok (.getfield 28, 3) := by decide +kernel
theorem d5_43 : decode prog_1_method_3_code 43 = .ok (.lmul, 1) := by decide +kernel
theorem d5_44 : decode prog_1_method_3_code 44 = .ok (.aload_n 0, 1) := by decide +kernel
theorem d5_45 : decode prog_1_method_3_code 45 = .ok (.getfield 53, 3) := by decide +kernel
theorem d5_48 : decode prog_1_method_3_code 48 = .ok (.ladd, 1) := by decide +kernel
theorem d5_49 : decode prog_1_method_3_code 49 = .ok (.lload_n 1, 1) := by decide +kernel
theorem d5_50 : decode prog_1_method_3_code 50 = .ok (.lsub, 1) := by decide +kernel
theorem d5_51 : decode prog_1_method_3_code 51 = .ok (.lreturn, 1) := by decide +kernel
theorem pn_5 : plainFor (⟨"com/example/calm_valve/calmvalve/AdmissionWindow", "admitted", "()J"⟩ : MethodName) = true := by first | exact plainFor_of_name (by first | (simp [plainName, overriddenIn]; done) | decide +kernel) | decide +kernel
theorem pd_2 : parseMethodDescriptor "()J" = some ⟨[], (some .long)⟩ := by decide +kernel
def own_adm_j20 (u_m_nPartial_o0 : Int32) (u_m_nPerSlot_o0 : Int64) (u_m_nPartialFill_o0 : Int64) (u_m_nUsed_o0 : Int32) (u_m_nNewestFill_o0 : Int64) : Int64 := if u_m_nPartial_o0 < 0 then (0 : Int64) else (u_m_nPerSlot_o0 - u_m_nPartialFill_o0)
def own_adm (u_m_nPartial_o0 : Int32) (u_m_nPerSlot_o0 : Int64) (u_m_nPartialFill_o0 : Int64) (u_m_nUsed_o0 : Int32) (u_m_nNewestFill_o0 : Int64) : Int64 := if u_m_nUsed_o0 = 0 then (0 : Int64) else ((((u_m_nUsed_o0 - (1 : Int32)).toInt64 * u_m_nPerSlot_o0) + u_m_nNewestFill_o0) - (own_adm_j20 u_m_nPartial_o0 u_m_nPerSlot_o0 u_m_nPartialFill_o0 u_m_nUsed_o0 u_m_nNewestFill_o0))
set_option maxRecDepth 65536 in
set_option maxHeartbeats 40000000 in
theorem rm_adm (l : Launch) (Z : State) (a0 : Array Value) (hw : ∀ d ∈ tables_1, d.before a0 Z = true) (o0 : Addr) (u_m_nPartial_o0 : Int32) (u_m_nPerSlot_o0 : Int64) (u_m_nPartialFill_o0 : Int64) (u_m_nUsed_o0 : Int32) (u_m_nNewestFill_o0 : Int64) (h0 : Heap)  (F_m_nPartial_o0 : Fld Z h0 o0 "com/example/calm_valve/calmvalve/AdmissionWindow" "m_nPartial" "I" (.int u_m_nPartial_o0)) (F_m_nPerSlot_o0 : Fld Z h0 o0 "com/example/calm_valve/calmvalve/AdmissionWindow" "m_nPerSlot" "J" (.long u_m_nPerSlot_o0)) (F_m_nPartialFill_o0 : Fld Z h0 o0 "com/example/calm_valve/calmvalve/AdmissionWindow" "m_nPartialFill" "J" (.long u_m_nPartialFill_o0)) (F_m_nUsed_o0 : Fld Z h0 o0 "com/example/calm_valve/calmvalve/AdmissionWindow" "m_nUsed" "I" (.int u_m_nUsed_o0)) (F_m_nNewestFill_o0 : Fld Z h0 o0 "com/example/calm_valve/calmvalve/AdmissionWindow" "m_nNewestFill" "J" (.long u_m_nNewestFill_o0)) :
    OwCon l (⟨"com/example/calm_valve/calmvalve/AdmissionWindow", "admitted", "()J"⟩ : MethodName) prog_1_method_3_code 3 (some .long) ({ frames := 0, cells := 0, slots := 0, locals := 0 } : Room) Z #[(.ref o0)] h0 (OwP (some (.long (own_adm u_m_nPartial_o0 u_m_nPerSlot_o0 u_m_nPartialFill_o0 u_m_nUsed_o0 u_m_nNewestFill_o0))) h0) := by
  refine OwCon.of pn_5 (Ls := #[.val (.ref o0), .unset, .unset]) (fun m => by first | (simp [entryFrame, mkF, argsToLocals, Value.category]; done) | rfl) ?_
  intro p e s m below meth c s₁ C X0 e0
  refine ow_aloadN C X0 d5_0 rfl rfl (pc' := 1) rfl ?_
  refine ow_getF C X0 e0 (hw _ (List.mem_of_getElem? (i := 18) rfl)) F_m_nPartial_o0 d5_1 (pc' := 4) rfl (fun T1 X1 e1 => ?_)
  refine ow_join X1 e1 (f' := (mkF m 20 #[.val (.ref o0), .unset, .unset] [(.long (own_adm_j20 u_m_nPartial_o0 u_m_nPerSlot_o0 u_m_nPartialFill_o0 u_m_nUsed_o0 u_m_nNewestFill_o0))])) ?_ (fun T4 X4 e4 => ?_)
  · intro D4 jk4
    refine ow_if_ge C X1 d5_4 (pcT := 11) (pc' := 7) (by decide) (by decide) rfl (fun b4 => ?_) (fun b4 => ?_)
    · refine ow_aloadN C X1 d5_11 rfl rfl (pc' := 12) rfl ?_
      refine ow_getF C X1 e1 (hw _ (List.mem_of_getElem? (i := 28) rfl)) F_m_nPerSlot_o0 d5_12 (pc' := 15) rfl (fun T2 X2 e2 => ?_)
      refine ow_aloadN C X2 d5_15 rfl rfl (pc' := 16) rfl ?_
      refine ow_getF C X2 e2 (hw _ (List.mem_of_getElem? (i := 80) rfl)) F_m_nPartialFill_o0 d5_16 (pc' := 19) rfl (fun T3 X3 e3 => ?_)
      refine ow_lsub C X3 d5_19 (pc' := 20) rfl ?_
      have jq := jk4 T3 X3 e3
      rw [show (own_adm_j20 u_m_nPartial_o0 u_m_nPerSlot_o0 u_m_nPartialFill_o0 u_m_nUsed_o0 u_m_nNewestFill_o0) = (u_m_nPerSlot_o0 - u_m_nPartialFill_o0) from by unfold own_adm_j20; (try rw [if_neg b4]); (try rfl)] at jq
      exact jq
    · refine ow_lconst (0 : Int64) C X1 d5_7 (by decide) (pc' := 8) rfl ?_
      refine ow_goto C X1 d5_8 (pcT := 20) (by decide) (by decide) ?_
      have jq := jk4 T1 X1 e1
      rw [show (own_adm_j20 u_m_nPartial_o0 u_m_nPerSlot_o0 u_m_nPartialFill_o0 u_m_nUsed_o0 u_m_nNewestFill_o0) = (0 : Int64) from by unfold own_adm_j20; (try rw [if_pos b4]); (try rfl)] at jq
      exact jq
  refine ow_lstoreN C X4 d5_20 (Ls' := #[.val (.ref o0), .val (.long (own_adm_j20 u_m_nPartial_o0 u_m_nPerSlot_o0 u_m_nPartialFill_o0 u_m_nUsed_o0 u_m_nNewestFill_o0)), .second]) rfl (pc' := 21) rfl ?_
  refine ow_aloadN C X4 d5_21 rfl rfl (pc' := 22) rfl ?_
  refine ow_getF C X4 e4 (hw _ (List.mem_of_getElem? (i := 37) rfl)) F_m_nUsed_o0 d5_22 (pc' := 25) rfl (fun T5 X5 e5 => ?_)
  refine ow_if_ne C X5 d5_25 (pcT := 32) (pc' := 28) (by decide) (by decide) rfl (fun b25 => ?_) (fun b25 => ?_)
  · refine ow_aloadN C X5 d5_32 rfl rfl (pc' := 33) rfl ?_
    refine ow_getF C X5 e5 (hw _ (List.mem_of_getElem? (i := 37) rfl)) F_m_nUsed_o0 d5_33 (pc' := 36) rfl (fun T6 X6 e6 => ?_)
    refine ow_iconst (1 : Int32) C X6 d5_36 (by decide) (pc' := 37) rfl ?_
    refine ow_isub C X6 d5_37 (pc' := 38) rfl ?_
    refine ow_i2l C X6 d5_38 (pc' := 39) rfl ?_
    refine ow_aloadN C X6 d5_39 rfl rfl (pc' := 40) rfl ?_
    refine ow_getF C X6 e6 (hw _ (List.mem_of_getElem? (i := 28) rfl)) F_m_nPerSlot_o0 d5_40 (pc' := 43) rfl (fun T7 X7 e7 => ?_)
    refine ow_lmul C X7 d5_43 (pc' := 44) rfl ?_
    refine ow_aloadN C X7 d5_44 rfl rfl (pc' := 45) rfl ?_
    refine ow_getF C X7 e7 (hw _ (List.mem_of_getElem? (i := 59) rfl)) F_m_nNewestFill_o0 d5_45 (pc' := 48) rfl (fun T8 X8 e8 => ?_)
    refine ow_ladd C X8 d5_48 (pc' := 49) rfl ?_
    refine ow_lloadN C X8 d5_49 rfl (pc' := 50) rfl ?_
    refine ow_lsub C X8 d5_50 (pc' := 51) rfl ?_
    exact ow_retJ C X8 d5_51 (Nat.le_of_ble_eq_true rfl) (Nat.le_of_ble_eq_true rfl) ⟨(show some (Value.long ((((u_m_nUsed_o0 - (1 : Int32)).toInt64 * u_m_nPerSlot_o0) + u_m_nNewestFill_o0) - (own_adm_j20 u_m_nPartial_o0 u_m_nPerSlot_o0 u_m_nPartialFill_o0 u_m_nUsed_o0 u_m_nNewestFill_o0))) = some (Value.long (own_adm u_m_nPartial_o0 u_m_nPerSlot_o0 u_m_nPartialFill_o0 u_m_nUsed_o0 u_m_nNewestFill_o0)) from congrArg (fun z => some (Value.long z)) (by unfold own_adm; rw [if_neg b25])), rfl, e8⟩
  · refine ow_lconst (0 : Int64) C X5 d5_28 (by decide) (pc' := 29) rfl ?_
    refine ow_goto C X5 d5_29 (pcT := 51) (by decide) (by decide) ?_
    exact ow_retJ C X5 d5_51 (Nat.le_of_ble_eq_true rfl) (Nat.le_of_ble_eq_true rfl) ⟨(show some (Value.long (0 : Int64)) = some (Value.long (own_adm u_m_nPartial_o0 u_m_nPerSlot_o0 u_m_nPartialFill_o0 u_m_nUsed_o0 u_m_nNewestFill_o0)) from congrArg (fun z => some (Value.long z)) (by unfold own_adm; rw [if_pos b25])), rfl, e5⟩
theorem d3_0 : decode prog_1_method_13_code 0 = .ok (.lload_n 0, 1) := by decide +kernel
theorem d3_1 : decode prog_1_method_13_code 1 = .ok (.lload_n 2, 1) := by decide +kernel
theorem d3_2 : decode prog_1_method_13_code 2 = .ok (.ldiv, 1) := by decide +kernel
theorem d3_3 : decode prog_1_method_13_code 3 = .ok (.lload_n 0, 1) := by decide +kernel
theorem d3_4 : decode prog_1_method_13_code 4 = .ok (.lload_n 2, 1) := by decide +kernel
theorem d3_5 : decode prog_1_method_13_code 5 = .ok (.lrem, 1) := by decide +kernel
theorem d3_6 : decode prog_1_method_13_code 6 = .ok (.lconst 0, 1) := by decide +kernel
theorem d3_7 : decode prog_1_method_13_code 7 = .ok (.lcmp, 1) := by decide +kernel
theorem d3_8 : decode prog_1_method_13_code 8 = .ok (.ifCond .ne 7, 3) := by decide +kernel
theorem d3_11 : decode prog_1_method_13_code 11 = .ok (.iconst 0, 1) := by decide +kernel
theorem d3_12 : decode prog_1_method_13_code 12 = .ok (.goto 4, 3) := by decide +kernel
theorem d3_15 : decode prog_1_method_13_code 15 = .ok (.iconst 1, 1) := by decide +kernel
theorem d3_16 : decode prog_1_method_13_code 16 = .ok (.i2l, 1) := by decide +kernel
theorem d3_17 : decode prog_1_method_13_code 17 = .ok (.ladd, 1) := by decide +kernel
theorem d3_18 : decode prog_1_method_13_code 18 = .ok (.lreturn, 1) := by decide +kernel
theorem pn_3 : plainFor (⟨"com/example/calm_valve/calmvalve/AdmissionWindow", "ceilDiv", "(JJ)J"⟩ : MethodName) = true := by first | exact plainFor_of_name (by first | (simp [plainName, overriddenIn]; done) | decide +kernel) | decide +kernel
def own_cdiv_j16 (x : Int64) (y : Int64) : Int32 := if (x - (x / y) * y) = (0 : Int64) then (0 : Int32) else (1 : Int32)
theorem own_cdiv_j16_01 (x : Int64) (y : Int64) : own_cdiv_j16 x y = 0 ∨ own_cdiv_j16 x y = 1 := by
  unfold own_cdiv_j16
  repeat' split
  all_goals first | exact Or.inl rfl | exact Or.inr rfl
set_option maxRecDepth 65536 in
set_option maxHeartbeats 40000000 in
theorem rm_cdiv (l : Launch) (Z : State) (a0 : Array Value) (hw : ∀ d ∈ tables_1, d.before a0 Z = true) (x y : Int64) (hy : ¬ y = 0) (h0 : Heap) :
    OwCon l (⟨"com/example/calm_valve/calmvalve/AdmissionWindow", "ceilDiv", "(JJ)J"⟩ : MethodName) prog_1_method_13_code 4 (some .long) ({ frames := 0, cells := 0, slots := 0, locals := 0 } : Room) Z #[(.long x), (.long y)] h0 (OwP (some (.long ((x / y) + (own_cdiv_j16 x y).toInt64))) h0) := by
  refine OwCon.of pn_3 (Ls := #[.val (.long x), .second, .val (.long y), .second]) (fun m => by first | (simp [entryFrame, mkF, argsToLocals, Value.category]; done) | rfl) ?_
  intro p e s m below meth c s₁ C X0 e0
  refine ow_lloadN C X0 d3_0 rfl (pc' := 1) rfl ?_
  refine ow_lloadN C X0 d3_1 rfl (pc' := 2) rfl ?_
  refine ow_ldiv C X0 d3_2 hy (pc' := 3) rfl ?_
  refine ow_lloadN C X0 d3_3 rfl (pc' := 4) rfl ?_
  refine ow_lloadN C X0 d3_4 rfl (pc' := 5) rfl ?_
  refine ow_lrem C X0 d3_5 hy (pc' := 6) rfl ?_
  refine ow_lconst (0 : Int64) C X0 d3_6 (by decide) (pc' := 7) rfl ?_
  refine ow_lcmp C X0 d3_7 (pc' := 8) rfl ?_
  refine ow_join X0 e0 (f' := (mkF m 16 #[.val (.long x), .second, .val (.long y), .second] [(.int (own_cdiv_j16 x y)), (.long (x / y))])) ?_ (fun T9 X9 e9 => ?_)
  · intro D9 jk9
    refine ow_lif_ne C X0 d3_8 (pcT := 15) (pc' := 11) (by decide) (by decide) rfl (fun b8 => ?_) (fun b8 => ?_)
    · refine ow_iconst (1 : Int32) C X0 d3_15 (by decide) (pc' := 16) rfl ?_
      have jq := jk9 s₁ X0 e0
      rw [show (own_cdiv_j16 x y) = (1 : Int32) from by unfold own_cdiv_j16; (try rw [if_neg b8]); (try rfl)] at jq
      exact jq
    · refine ow_iconst (0 : Int32) C X0 d3_11 (by decide) (pc' := 12) rfl ?_
      refine ow_goto C X0 d3_12 (pcT := 16) (by decide) (by decide) ?_
      have jq := jk9 s₁ X0 e0
      rw [show (own_cdiv_j16 x y) = (0 : Int32) from by unfold own_cdiv_j16; (try rw [if_pos b8]); (try rfl)] at jq
      exact jq
  refine ow_i2l C X9 d3_16 (pc' := 17) rfl ?_
  refine ow_ladd C X9 d3_17 (pc' := 18) rfl ?_
  exact ow_retJ C X9 d3_18 (Nat.le_of_ble_eq_true rfl) (Nat.le_of_ble_eq_true rfl) ⟨rfl, rfl, e9⟩
def own_per (x : Int64) : Int64 := own_maxJ (1 : Int64) ((x / (300 : Int64)) + (own_cdiv_j16 x (300 : Int64)).toInt64)
def own_msn (x : Int64) : Nat := ((x.toInt + (own_per x).toInt - 1) / (own_per x).toInt + 1).toNat
theorem own_cdI {x y : Int64} (hx : 0 < x.toInt) (hy : 0 < y.toInt) (hx2 : x.toInt ≤ 4611686018427387904) : ((x / y) + (own_cdiv_j16 x y).toInt64).toInt = (x.toInt + y.toInt - 1) / y.toInt := by
  have hb := Int64.toInt_lt y
  have hd1 : 0 ≤ x.toInt / y.toInt := Int.ediv_nonneg (by omega) (by omega)
  have hd2 : x.toInt / y.toInt ≤ x.toInt := Int.ediv_le_self _ (by omega)
  have hm := Int.mul_ediv_add_emod x.toInt y.toInt
  have hr1 := Int.emod_nonneg x.toInt (show y.toInt ≠ 0 by omega)
  have hr2 := Int.emod_lt_of_pos x.toInt hy
  have hq : (x / y).toInt = x.toInt / y.toInt := by rw [Int64.toInt_div, Int.tdiv_eq_ediv_of_nonneg (by omega), own_bmL (by omega)]
  generalize hQ : x.toInt / y.toInt = Q at *
  generalize hRR : x.toInt % y.toInt = r at *
  have hp : (x / y * y).toInt = y.toInt * Q := by
    rw [Int64.toInt_mul, hq, Int.mul_comm, own_bmL (by omega)]
  have hs : (x - x / y * y).toInt = r := by rw [Int64.toInt_sub, hp, own_bmL (by omega)]; omega
  unfold own_cdiv_j16
  by_cases e : x - x / y * y = 0
  · rw [if_pos e]
    have r0 : r = 0 := by rw [← hs, e]; rfl
    have e2 : (x.toInt + y.toInt - 1) / y.toInt = Q := ((Int.ediv_emod_unique hy (r := y.toInt - 1)).mpr ⟨by omega, by omega, by omega⟩).1
    rw [e2, Int64.toInt_add, hq]
    rw [show ((0 : Int32).toInt64).toInt = 0 from by decide, own_bmL (by omega)]; omega
  · rw [if_neg e]
    have r0 : r ≠ 0 := fun w => e (Int64.toInt_inj.mp (by rw [hs, w]; rfl))
    have e2 : (x.toInt + y.toInt - 1) / y.toInt = Q + 1 := ((Int.ediv_emod_unique hy (r := r - 1)).mpr ⟨by rw [Int.mul_add]; omega, by omega, by omega⟩).1
    rw [e2, Int64.toInt_add, hq]
    rw [show ((1 : Int32).toInt64).toInt = 1 from by decide, own_bmL (by omega)]
theorem own_perI {x : Int64} (hx : 0 < x.toInt) (hx2 : x.toInt ≤ 4611686018427387904) : (own_per x).toInt = (x.toInt + 299) / 300 := by
  have e3 : (300 : Int64).toInt = 300 := by decide
  have h := own_cdI hx (y := 300) (by rw [e3]; omega) hx2
  rw [e3] at h
  unfold own_per own_maxJ
  have e1 : (1 : Int64).toInt = 1 := by decide
  split
  · rw [h]; omega
  · rename_i w
    rw [Int64.lt_iff_toInt_lt, h, e1] at w
    rw [e1]; omega
theorem own_per_nz {x : Int64} (hx : 0 < x.toInt) (hx2 : x.toInt ≤ 4611686018427387904) : ¬ own_per x = 0 := fun w => by
  have := own_perI hx hx2
  rw [w] at this
  have e : (0 : Int64).toInt = 0 := by decide
  omega
theorem own_msI {x : Int64} (hx : 0 < x.toInt) (hx2 : x.toInt ≤ 4611686018427387904) : 2 ≤ own_msn x ∧ own_msn x ≤ 301 ∧ x.toInt ≤ ((own_msn x - 1 : Nat) : Int) * (own_per x).toInt ∧ (x.toInt + (own_per x).toInt - 1) / (own_per x).toInt = (own_msn x : Int) - 1 := by
  have hp := own_perI hx hx2
  have hP : 0 < (own_per x).toInt := by omega
  generalize hPP : (own_per x).toInt = P at *
  have h1 : 1 ≤ (x.toInt + P - 1) / P := by rw [Int.le_ediv_iff_mul_le hP]; omega
  have h2 : (x.toInt + P - 1) / P ≤ 300 := by
    have : (x.toInt + P - 1) / P < 301 := by rw [Int.ediv_lt_iff_lt_mul hP]; omega
    omega
  have h3 := Int.mul_ediv_add_emod (x.toInt + P - 1) P
  have h4 := Int.emod_lt_of_pos (x.toInt + P - 1) hP
  have h5 : (own_msn x : Int) = (x.toInt + P - 1) / P + 1 := by unfold own_msn; rw [hPP]; omega
  generalize (x.toInt + P - 1) / P = Q at *
  refine ⟨by omega, by omega, ?_, by omega⟩
  rw [show ((own_msn x - 1 : Nat) : Int) = Q by omega, Int.mul_comm]
  omega
theorem own_ms32 {x : Int64} (hx : 0 < x.toInt) (hx2 : x.toInt ≤ 4611686018427387904) : ((x / own_per x) + (own_cdiv_j16 x (own_per x)).toInt64).toInt32 + (1 : Int32) = Int32.ofNat (own_msn x) := by
  have hp := own_perI hx hx2
  have hm := own_msI hx hx2
  have h := own_cdI hx (y := own_per x) (by omega) hx2
  apply Int32.toInt_inj.mp
  rw [Int32.toInt_add, Int64.toInt_toInt32, h, hm.2.2.2, show (1 : Int32).toInt = 1 from by decide, own_bmI (x := (own_msn x : Int) - 1) (by omega), own_bmI (by omega), own_ixI (by omega)]
  omega

theorem d1_0 : decode prog_1_method_1_code 0 = .ok (.aload_n 0, 1) := by decide +kernel
theorem d1_1 : decode prog_1_method_1_code 1 = .ok (.invokespecial 3, 3) := by decide +kernel
theorem d1_4 : decode prog_1_method_1_code 4 = .ok (.aload_n 0, 1) := by decide +kernel
theorem d1_5 : decode prog_1_method_1_code 5 = .ok (.iconst 0, 1) := by decide +kernel
theorem d1_6 : decode prog_1_method_1_code 6 = .ok (.newarray .long, 2) := by decide +kernel
theorem d1_8 : decode prog_1_method_1_code 8 = .ok (.putfield 9, 3) := by decide +kernel
theorem d1_11 : decode prog_1_method_1_code 11 = .ok (.aload_n 0, 1) := by decide +kernel
theorem d1_12 : decode prog_1_method_1_code 12 = .ok (.iconst (-1), 1) := by decide +kernel
theorem d1_13 : decode prog_1_method_1_code 13 = .ok (.putfield 13, 3) := by decide +kernel
theorem d1_16 : decode prog_1_method_1_code 16 = .ok (.aload_n 0, 1) := by decide +kernel
theorem d1_17 : decode prog_1_method_1_code 17 = .ok (.lconst 1, 1) := by decide +kernel
theorem d1_18 : decode prog_1_method_1_code 18 = .ok (.lload_n 1, 1) := by decide +kernel
theorem d1_19 : decode prog_1_method_1_code 19 = .ok (.ldc2_w 17, 3) := by decide +kernel
theorem d1_22 : decode prog_1_method_1_code 22 = .ok (.invokestatic 19, 3) := by decide +kernel
theorem d1_25 : decode prog_1_method_1_code 25 = .ok (.invokestatic 23, 3) := by decide +kernel
theorem d1_28 : decode prog_1_method_1_code 28 = .ok (.putfield 28, 3) := by decide +kernel
theorem d1_31 : decode prog_1_method_1_code 31 = .ok (.aload_n 0, 1) := by decide +kernel
theorem d1_32 : decode prog_1_method_1_code 32 = .ok (.lload_n 1, 1) := by decide +kernel
theorem d1_33 : decode prog_1_method_1_code 33 = .ok (.aload_n 0, 1) := by decide +kernel
theorem d1_34 : decode prog_1_method_1_code 34 = .ok (.getfield 28, 3) := by decide +kernel
theorem d1_37 : decode prog_1_method_1_code 37 = .ok (.invokestatic 19, 3) := by decide +kernel
theorem d1_40 : decode prog_1_method_1_code 40 = .ok (.l2i, 1) := by decide +kernel
theorem d1_41 : decode prog_1_method_1_code 41 = .ok (.iconst 1, 1) := by decide +kernel
theorem d1_42 : decode prog_1_method_1_code 42 = .ok (.iadd, 1) := by decide +kernel
theorem d1_43 : decode prog_1_method_1_code 43 = .ok (.putfield 32, 3) := by decide +kernel
theorem d1_46 : decode prog_1_method_1_code 46 = .ok (.return_, 1) := by decide +kernel
theorem pn_1 : plainFor (⟨"com/example/calm_valve/calmvalve/AdmissionWindow", "<init>", "(J)V"⟩ : MethodName) = true := by first | exact plainFor_of_name (by first | (simp [plainName, overriddenIn]; done) | decide +kernel) | decide +kernel
theorem pd_3 : parseMethodDescriptor "(J)V" = some ⟨[.long], none⟩ := by decide +kernel
set_option maxRecDepth 65536 in
set_option maxHeartbeats 40000000 in
theorem rm_init (l : Launch) (Z : State) (a0 : Array Value) (hw : ∀ d ∈ tables_1, d.before a0 Z = true) (o : Addr) (x : Int64) (hx1 : 0 < x.toInt) (hx2 : x.toInt ≤ 4611686018427387904) (h0 : Heap) (n0 : Nat) (Z0 : n0 ≤ h0.size) (E : Exa Z h0 o "com/example/calm_valve/calmvalve/AdmissionWindow") (go : n0 ≤ o) (Fs : Fld Z h0 o "com/example/calm_valve/calmvalve/AdmissionWindow" "m_aSlotTimes" "[J" .null) (Fp : Fld Z h0 o "com/example/calm_valve/calmvalve/AdmissionWindow" "m_nPartial" "I" (.int 0)) (Fe : Fld Z h0 o "com/example/calm_valve/calmvalve/AdmissionWindow" "m_nPerSlot" "J" (.long 0)) (Fm : Fld Z h0 o "com/example/calm_valve/calmvalve/AdmissionWindow" "m_nMaxSlots" "I" (.int 0)) (Fu : Fld Z h0 o "com/example/calm_valve/calmvalve/AdmissionWindow" "m_nUsed" "I" (.int 0)) (Fo : Fld Z h0 o "com/example/calm_valve/calmvalve/AdmissionWindow" "m_nOldest" "I" (.int 0)) (Fq : Fld Z h0 o "com/example/calm_valve/calmvalve/AdmissionWindow" "m_nPartialFill" "J" (.long 0)) (Ff : Fld Z h0 o "com/example/calm_valve/calmvalve/AdmissionWindow" "m_nNewestFill" "J" (.long 0)) (Ft : Fld Z h0 o "com/example/calm_valve/calmvalve/AdmissionWindow" "m_nNewestTime" "J" (.long 0)) :
    OwCon l (⟨"com/example/calm_valve/calmvalve/AdmissionWindow", "<init>", "(J)V"⟩ : MethodName) prog_1_method_1_code 3 none ({ frames := 1, cells := 1, slots := 0, locals := 18 } : Room) Z #[(.ref o), (.long x)] h0 (fun v h L => v = none ∧ Fr n0 L ∧ Keep h0 h [o] ∧ ∃ q, h0.size ≤ q ∧ OwR Z h n0 o q 0 (fun _ => 0) 0 0 0 0 (-1) 0 (own_per x) (own_msn x)) := by
  refine OwCon.of pn_1 (Ls := #[.val (.ref o), .val (.long x), .second]) (fun m => by first | (simp [entryFrame, mkF, argsToLocals, Value.category]; done) | rfl) ?_
  intro p e s m below meth c s₁ C X0 e0
  refine ow_aloadN C X0 d1_0 rfl rfl (pc' := 1) rfl ?_
  refine ow_initO C X0 e0 (hw _ (List.mem_of_getElem? (i := 12) rfl)) (hw _ (List.mem_of_getElem? (i := 13) rfl)) (hw _ (List.mem_of_getElem? (i := 14) rfl)) rfl d1_1 (Nat.le_of_ble_eq_true rfl) (Nat.le_of_ble_eq_true rfl) (pc' := 4) rfl (fun T10 X10 e10 => ?_)
  refine ow_aloadN C X10 d1_4 rfl rfl (pc' := 5) rfl ?_
  refine ow_iconst (0 : Int32) C X10 d1_5 (by decide) (pc' := 6) rfl ?_
  refine ow_newarr C X10 e10 (hw _ (List.mem_of_getElem? (i := 15) rfl)) d1_6 (N := 0) (cap := 0) (by decide) (by decide) (Nat.le_of_ble_eq_true rfl) (Nat.le_of_ble_eq_true rfl) (Nat.le_of_ble_eq_true rfl) (Nat.le_of_ble_eq_true rfl) (pc' := 8) rfl (fun T11 h11 a11 g11 X11 e11 Ex11 A11 => ?_)
  have A11 : OwA Z h11 a11 .long 0 (fun _ => .long 0) := A11
  have lq11_o : o < a11 := Nat.lt_of_lt_of_le E.lt (Nat.le_of_eq g11.symm)
  have E11_0 := E.ext Ex11
  have F11_1 := Fs.ext Ex11
  have F11_2 := Fp.ext Ex11
  have F11_3 := Fe.ext Ex11
  have F11_4 := Fm.ext Ex11
  have F11_5 := Fu.ext Ex11
  have F11_6 := Fo.ext Ex11
  have F11_7 := Fq.ext Ex11
  have F11_8 := Ff.ext Ex11
  have F11_9 := Ft.ext Ex11
  have Gh11 : h0.size ≤ a11 := Nat.le_trans (Keep.refl h0 [o]).1 (Nat.le_of_eq g11.symm)
  have K11 : Keep h0 h11 [o] := (Keep.refl h0 [o]).ext Ex11
  have Ge11 : n0 ≤ a11 := Nat.le_trans Z0 (Nat.le_of_eq g11.symm)
  have Z11 : n0 ≤ h11.size := Nat.le_trans Z0 Ex11.1
  refine ow_putF C X11 e11 (hw _ (List.mem_of_getElem? (i := 16) rfl)) F11_1 E11_0 (Or.inl (hw _ (List.mem_of_getElem? (i := 17) rfl))) (hw _ (List.mem_of_getElem? (i := 7) rfl)) (ty := (.array .long)) (by decide) rfl rfl d1_8 (pc' := 11) rfl (fun T12 h12 X12 e12 W12 => ?_)
  have E12_0 := E11_0.wr W12
  have F12_1 := F11_1.same W12
  have F12_2 := F11_2.other W12 (Or.inr (slot_ne (Or.inl (hw _ (List.mem_of_getElem? (i := 19) rfl))) (Or.inl (hw _ (List.mem_of_getElem? (i := 17) rfl))) (by decide) (t := .int) (t' := (.array .long)) (by decide) (by decide)))
  have F12_3 := F11_3.other W12 (Or.inr (slot_ne (Or.inr (hw _ (List.mem_of_getElem? (i := 29) rfl))) (Or.inl (hw _ (List.mem_of_getElem? (i := 17) rfl))) (by decide) (t := .long) (t' := (.array .long)) (by decide) (by decide)))
  have F12_4 := F11_4.other W12 (Or.inr (slot_ne (Or.inr (hw _ (List.mem_of_getElem? (i := 31) rfl))) (Or.inl (hw _ (List.mem_of_getElem? (i := 17) rfl))) (by decide) (t := .int) (t' := (.array .long)) (by decide) (by decide)))
  have F12_5 := F11_5.other W12 (Or.inr (slot_ne (Or.inl (hw _ (List.mem_of_getElem? (i := 38) rfl))) (Or.inl (hw _ (List.mem_of_getElem? (i := 17) rfl))) (by decide) (t := .int) (t' := (.array .long)) (by decide) (by decide)))
  have F12_6 := F11_6.other W12 (Or.inr (slot_ne (Or.inl (hw _ (List.mem_of_getElem? (i := 55) rfl))) (Or.inl (hw _ (List.mem_of_getElem? (i := 17) rfl))) (by decide) (t := .int) (t' := (.array .long)) (by decide) (by decide)))
  have F12_7 := F11_7.other W12 (Or.inr (slot_ne (Or.inl (hw _ (List.mem_of_getElem? (i := 81) rfl))) (Or.inl (hw _ (List.mem_of_getElem? (i := 17) rfl))) (by decide) (t := .long) (t' := (.array .long)) (by decide) (by decide)))
  have F12_8 := F11_8.other W12 (Or.inr (slot_ne (Or.inl (hw _ (List.mem_of_getElem? (i := 60) rfl))) (Or.inl (hw _ (List.mem_of_getElem? (i := 17) rfl))) (by decide) (t := .long) (t' := (.array .long)) (by decide) (by decide)))
  have F12_9 := F11_9.other W12 (Or.inr (slot_ne (Or.inl (hw _ (List.mem_of_getElem? (i := 62) rfl))) (Or.inl (hw _ (List.mem_of_getElem? (i := 17) rfl))) (by decide) (t := .long) (t' := (.array .long)) (by decide) (by decide)))
  have A12_a11 := A11.other W12 (Ne.symm (Nat.ne_of_lt lq11_o))
  have K12 : Keep h0 h12 [o] := K11.wr W12 (Or.inl (List.mem_singleton.mpr rfl))
  have N12 := Fr.snoc X12 (Fr.nil n0) go
  have Z12 : n0 ≤ h12.size := by rw [W12.size]; exact Z11
  refine ow_aloadN C X12 d1_11 rfl rfl (pc' := 12) rfl ?_
  refine ow_iconst (-1 : Int32) C X12 d1_12 (by decide) (pc' := 13) rfl ?_
  refine ow_putF C X12 e12 (hw _ (List.mem_of_getElem? (i := 18) rfl)) F12_2 E12_0 (Or.inl (hw _ (List.mem_of_getElem? (i := 19) rfl))) (hw _ (List.mem_of_getElem? (i := 7) rfl)) (ty := .int) (by decide) rfl rfl d1_13 (pc' := 16) rfl (fun T13 h13 X13 e13 W13 => ?_)
  have E13_0 := E12_0.wr W13
  have F13_1 := F12_1.other W13 (Or.inr (slot_ne (Or.inl (hw _ (List.mem_of_getElem? (i := 17) rfl))) (Or.inl (hw _ (List.mem_of_getElem? (i := 19) rfl))) (by decide) (t := (.array .long)) (t' := .int) (by decide) (by decide)))
  have F13_2 := F12_2.same W13
  have F13_3 := F12_3.other W13 (Or.inr (slot_ne (Or.inr (hw _ (List.mem_of_getElem? (i := 29) rfl))) (Or.inl (hw _ (List.mem_of_getElem? (i := 19) rfl))) (by decide) (t := .long) (t' := .int) (by decide) (by decide)))
  have F13_4 := F12_4.other W13 (Or.inr (slot_ne (Or.inr (hw _ (List.mem_of_getElem? (i := 31) rfl))) (Or.inl (hw _ (List.mem_of_getElem? (i := 19) rfl))) (by decide) (t := .int) (t' := .int) (by decide) (by decide)))
  have F13_5 := F12_5.other W13 (Or.inr (slot_ne (Or.inl (hw _ (List.mem_of_getElem? (i := 38) rfl))) (Or.inl (hw _ (List.mem_of_getElem? (i := 19) rfl))) (by decide) (t := .int) (t' := .int) (by decide) (by decide)))
  have F13_6 := F12_6.other W13 (Or.inr (slot_ne (Or.inl (hw _ (List.mem_of_getElem? (i := 55) rfl))) (Or.inl (hw _ (List.mem_of_getElem? (i := 19) rfl))) (by decide) (t := .int) (t' := .int) (by decide) (by decide)))
  have F13_7 := F12_7.other W13 (Or.inr (slot_ne (Or.inl (hw _ (List.mem_of_getElem? (i := 81) rfl))) (Or.inl (hw _ (List.mem_of_getElem? (i := 19) rfl))) (by decide) (t := .long) (t' := .int) (by decide) (by decide)))
  have F13_8 := F12_8.other W13 (Or.inr (slot_ne (Or.inl (hw _ (List.mem_of_getElem? (i := 60) rfl))) (Or.inl (hw _ (List.mem_of_getElem? (i := 19) rfl))) (by decide) (t := .long) (t' := .int) (by decide) (by decide)))
  have F13_9 := F12_9.other W13 (Or.inr (slot_ne (Or.inl (hw _ (List.mem_of_getElem? (i := 62) rfl))) (Or.inl (hw _ (List.mem_of_getElem? (i := 19) rfl))) (by decide) (t := .long) (t' := .int) (by decide) (by decide)))
  have A13_a11 := A12_a11.other W13 (Ne.symm (Nat.ne_of_lt lq11_o))
  have K13 : Keep h0 h13 [o] := K12.wr W13 (Or.inl (List.mem_singleton.mpr rfl))
  have N13 := Fr.snoc X13 N12 go
  have Z13 : n0 ≤ h13.size := by rw [W13.size]; exact Z12
  refine ow_aloadN C X13 d1_16 rfl rfl (pc' := 17) rfl ?_
  refine ow_lconst (1 : Int64) C X13 d1_17 (by decide) (pc' := 18) rfl ?_
  refine ow_lloadN C X13 d1_18 rfl (pc' := 19) rfl ?_
  refine ow_ldc2 C X13 (hw _ (List.mem_of_getElem? (i := 20) rfl)) d1_19 (pc' := 22) rfl ?_
  refine ow_callS C X13 e13 (hw _ (List.mem_of_getElem? (i := 21) rfl)) (hw _ (List.mem_of_getElem? (i := 22) rfl)) (hw _ (List.mem_of_getElem? (i := 8) rfl)) (hw _ (List.mem_of_getElem? (i := 23) rfl)) (by decide) (rm_cdiv l Z a0 hw x (300 : Int64) (by decide) h13) pd_0 rfl (argsL := [(.long x), (.long (300 : Int64))]) (rest := [(.long (1 : Int64)), (.ref o)]) rfl rfl d1_22 (Nat.le_of_ble_eq_true rfl) (Nat.le_of_ble_eq_true rfl) (Nat.le_of_ble_eq_true rfl) (Nat.le_of_ble_eq_true rfl) (pc' := 25) rfl (fun T14 v14 L14 X14 Q14 => ?_)
  obtain ⟨rfl, rfl, e14⟩ := Q14
  rw [List.append_nil] at X14
  show OwF p e below _ T14 (mkF m 25 #[.val (.ref o), .val (.long x), .second] [(.long ((x / (300 : Int64)) + (own_cdiv_j16 x (300 : Int64)).toInt64)), (.long (1 : Int64)), (.ref o)])
  refine ow_callSP C X14 e14 (hw _ (List.mem_of_getElem? (i := 24) rfl)) (hw _ (List.mem_of_getElem? (i := 25) rfl)) (hw _ (List.mem_of_getElem? (i := 26) rfl)) (hw _ (List.mem_of_getElem? (i := 27) rfl)) (by decide) (rm_maxJ l Z a0 hw (1 : Int64) ((x / (300 : Int64)) + (own_cdiv_j16 x (300 : Int64)).toInt64) h13) ⟨rfl, rfl⟩ pd_0 rfl (argsL := [(.long (1 : Int64)), (.long ((x / (300 : Int64)) + (own_cdiv_j16 x (300 : Int64)).toInt64))]) (rest := [(.ref o)]) rfl rfl d1_25 (Nat.le_of_ble_eq_true rfl) (Nat.le_of_ble_eq_true rfl) (Nat.le_of_ble_eq_true rfl) (Nat.le_of_ble_eq_true rfl) (pc' := 28) rfl (fun T15 X15 e15 => ?_)
  rw [show own_maxJ (1 : Int64) ((x / (300 : Int64)) + (own_cdiv_j16 x (300 : Int64)).toInt64) = own_per x from rfl]
  refine ow_putF C X15 e15 (hw _ (List.mem_of_getElem? (i := 28) rfl)) F13_3 E13_0 (Or.inr ⟨(hw _ (List.mem_of_getElem? (i := 29) rfl)), rfl, rfl⟩) (hw _ (List.mem_of_getElem? (i := 7) rfl)) (ty := .long) (by decide) rfl rfl d1_28 (pc' := 31) rfl (fun T16 h16 X16 e16 W16 => ?_)
  have E16_0 := E13_0.wr W16
  have F16_1 := F13_1.other W16 (Or.inr (slot_ne (Or.inl (hw _ (List.mem_of_getElem? (i := 17) rfl))) (Or.inr (hw _ (List.mem_of_getElem? (i := 29) rfl))) (by decide) (t := (.array .long)) (t' := .long) (by decide) (by decide)))
  have F16_2 := F13_2.other W16 (Or.inr (slot_ne (Or.inl (hw _ (List.mem_of_getElem? (i := 19) rfl))) (Or.inr (hw _ (List.mem_of_getElem? (i := 29) rfl))) (by decide) (t := .int) (t' := .long) (by decide) (by decide)))
  have F16_3 := F13_3.same W16
  have F16_4 := F13_4.other W16 (Or.inr (slot_ne (Or.inr (hw _ (List.mem_of_getElem? (i := 31) rfl))) (Or.inr (hw _ (List.mem_of_getElem? (i := 29) rfl))) (by decide) (t := .int) (t' := .long) (by decide) (by decide)))
  have F16_5 := F13_5.other W16 (Or.inr (slot_ne (Or.inl (hw _ (List.mem_of_getElem? (i := 38) rfl))) (Or.inr (hw _ (List.mem_of_getElem? (i := 29) rfl))) (by decide) (t := .int) (t' := .long) (by decide) (by decide)))
  have F16_6 := F13_6.other W16 (Or.inr (slot_ne (Or.inl (hw _ (List.mem_of_getElem? (i := 55) rfl))) (Or.inr (hw _ (List.mem_of_getElem? (i := 29) rfl))) (by decide) (t := .int) (t' := .long) (by decide) (by decide)))
  have F16_7 := F13_7.other W16 (Or.inr (slot_ne (Or.inl (hw _ (List.mem_of_getElem? (i := 81) rfl))) (Or.inr (hw _ (List.mem_of_getElem? (i := 29) rfl))) (by decide) (t := .long) (t' := .long) (by decide) (by decide)))
  have F16_8 := F13_8.other W16 (Or.inr (slot_ne (Or.inl (hw _ (List.mem_of_getElem? (i := 60) rfl))) (Or.inr (hw _ (List.mem_of_getElem? (i := 29) rfl))) (by decide) (t := .long) (t' := .long) (by decide) (by decide)))
  have F16_9 := F13_9.other W16 (Or.inr (slot_ne (Or.inl (hw _ (List.mem_of_getElem? (i := 62) rfl))) (Or.inr (hw _ (List.mem_of_getElem? (i := 29) rfl))) (by decide) (t := .long) (t' := .long) (by decide) (by decide)))
  have A16_a11 := A13_a11.other W16 (Ne.symm (Nat.ne_of_lt lq11_o))
  have K16 : Keep h0 h16 [o] := K13.wr W16 (Or.inl (List.mem_singleton.mpr rfl))
  have N16 := Fr.snoc X16 N13 go
  have Z16 : n0 ≤ h16.size := by rw [W16.size]; exact Z13
  refine ow_aloadN C X16 d1_31 rfl rfl (pc' := 32) rfl ?_
  refine ow_lloadN C X16 d1_32 rfl (pc' := 33) rfl ?_
  refine ow_aloadN C X16 d1_33 rfl rfl (pc' := 34) rfl ?_
  refine ow_getF C X16 e16 (hw _ (List.mem_of_getElem? (i := 28) rfl)) F16_3 d1_34 (pc' := 37) rfl (fun T17 X17 e17 => ?_)
  refine ow_callS C X17 e17 (hw _ (List.mem_of_getElem? (i := 21) rfl)) (hw _ (List.mem_of_getElem? (i := 22) rfl)) (hw _ (List.mem_of_getElem? (i := 8) rfl)) (hw _ (List.mem_of_getElem? (i := 23) rfl)) (by decide) (rm_cdiv l Z a0 hw x (own_per x) (own_per_nz hx1 hx2) h16) pd_0 rfl (argsL := [(.long x), (.long (own_per x))]) (rest := [(.ref o)]) rfl rfl d1_37 (Nat.le_of_ble_eq_true rfl) (Nat.le_of_ble_eq_true rfl) (Nat.le_of_ble_eq_true rfl) (Nat.le_of_ble_eq_true rfl) (pc' := 40) rfl (fun T18 v18 L18 X18 Q18 => ?_)
  obtain ⟨rfl, rfl, e18⟩ := Q18
  rw [List.append_nil] at X18
  show OwF p e below _ T18 (mkF m 40 #[.val (.ref o), .val (.long x), .second] [(.long ((x / (own_per x)) + (own_cdiv_j16 x (own_per x)).toInt64)), (.ref o)])
  refine ow_l2i C X18 d1_40 (pc' := 41) rfl ?_
  refine ow_iconst (1 : Int32) C X18 d1_41 (by decide) (pc' := 42) rfl ?_
  refine ow_iadd C X18 d1_42 (pc' := 43) rfl ?_
  rw [show ((x / (own_per x)) + (own_cdiv_j16 x (own_per x)).toInt64).toInt32 + (1 : Int32) = Int32.ofNat (own_msn x) from own_ms32 hx1 hx2]
  refine ow_putF C X18 e18 (hw _ (List.mem_of_getElem? (i := 30) rfl)) F16_4 E16_0 (Or.inr ⟨(hw _ (List.mem_of_getElem? (i := 31) rfl)), rfl, rfl⟩) (hw _ (List.mem_of_getElem? (i := 7) rfl)) (ty := .int) (by decide) rfl rfl d1_43 (pc' := 46) rfl (fun T19 h19 X19 e19 W19 => ?_)
  have E19_0 := E16_0.wr W19
  have F19_1 := F16_1.other W19 (Or.inr (slot_ne (Or.inl (hw _ (List.mem_of_getElem? (i := 17) rfl))) (Or.inr (hw _ (List.mem_of_getElem? (i := 31) rfl))) (by decide) (t := (.array .long)) (t' := .int) (by decide) (by decide)))
  have F19_2 := F16_2.other W19 (Or.inr (slot_ne (Or.inl (hw _ (List.mem_of_getElem? (i := 19) rfl))) (Or.inr (hw _ (List.mem_of_getElem? (i := 31) rfl))) (by decide) (t := .int) (t' := .int) (by decide) (by decide)))
  have F19_3 := F16_3.other W19 (Or.inr (slot_ne (Or.inr (hw _ (List.mem_of_getElem? (i := 29) rfl))) (Or.inr (hw _ (List.mem_of_getElem? (i := 31) rfl))) (by decide) (t := .long) (t' := .int) (by decide) (by decide)))
  have F19_4 := F16_4.same W19
  have F19_5 := F16_5.other W19 (Or.inr (slot_ne (Or.inl (hw _ (List.mem_of_getElem? (i := 38) rfl))) (Or.inr (hw _ (List.mem_of_getElem? (i := 31) rfl))) (by decide) (t := .int) (t' := .int) (by decide) (by decide)))
  have F19_6 := F16_6.other W19 (Or.inr (slot_ne (Or.inl (hw _ (List.mem_of_getElem? (i := 55) rfl))) (Or.inr (hw _ (List.mem_of_getElem? (i := 31) rfl))) (by decide) (t := .int) (t' := .int) (by decide) (by decide)))
  have F19_7 := F16_7.other W19 (Or.inr (slot_ne (Or.inl (hw _ (List.mem_of_getElem? (i := 81) rfl))) (Or.inr (hw _ (List.mem_of_getElem? (i := 31) rfl))) (by decide) (t := .long) (t' := .int) (by decide) (by decide)))
  have F19_8 := F16_8.other W19 (Or.inr (slot_ne (Or.inl (hw _ (List.mem_of_getElem? (i := 60) rfl))) (Or.inr (hw _ (List.mem_of_getElem? (i := 31) rfl))) (by decide) (t := .long) (t' := .int) (by decide) (by decide)))
  have F19_9 := F16_9.other W19 (Or.inr (slot_ne (Or.inl (hw _ (List.mem_of_getElem? (i := 62) rfl))) (Or.inr (hw _ (List.mem_of_getElem? (i := 31) rfl))) (by decide) (t := .long) (t' := .int) (by decide) (by decide)))
  have A19_a11 := A16_a11.other W19 (Ne.symm (Nat.ne_of_lt lq11_o))
  have K19 : Keep h0 h19 [o] := K16.wr W19 (Or.inl (List.mem_singleton.mpr rfl))
  have N19 := Fr.snoc X19 N16 go
  have Z19 : n0 ≤ h19.size := by rw [W19.size]; exact Z16
  refine ow_retV C X19 d1_46 (Nat.le_of_ble_eq_true rfl) (Nat.le_of_ble_eq_true rfl) ?_
  rw [e19]
  exact ⟨rfl, N19, K19, a11, Gh11, ⟨E19_0, F19_1, F19_2, F19_3, F19_4, F19_5, F19_6, F19_7, F19_8, F19_9, A19_a11, go, Ge11, (Nat.ne_of_lt lq11_o)⟩⟩
theorem d11_0 : decode prog_1_method_11_code 0 = .ok (.aload_n 0, 1) := by decide +kernel
theorem d11_1 : decode prog_1_method_11_code 1 = .ok (.getfield 44, 3) := by decide +kernel
theorem d11_4 : decode prog_1_method_11_code 4 = .ok (.aload_n 0, 1) := by decide +kernel
theorem d11_5 : decode prog_1_method_11_code 5 = .ok (.getfield 35, 3) := by decide +kernel
theorem d11_8 : decode prog_1_method_11_code 8 = .ok (.iadd, 1) := by decide +kernel
theorem d11_9 : decode prog_1_method_11_code 9 = .ok (.iconst 1, 1) := by decide +kernel
theorem d11_10 : decode prog_1_method_11_code 10 = .ok (.isub, 1) := by decide +kernel
theorem d11_11 : decode prog_1_method_11_code 11 = .ok (.aload_n 0, 1) := by decide +kernel
theorem d11_12 : decode prog_1_method_11_code 12 = .ok (.getfield 9, 3) := by decide +kernel
theorem d11_15 : decode prog_1_method_11_code 15 = .ok (.arraylength, 1) := by decide +kernel
theorem d11_16 : decode prog_1_method_11_code 16 = .ok (.irem, 1) := by decide +kernel
theorem d11_17 : decode prog_1_method_11_code 17 = .ok (.ireturn, 1) := by decide +kernel
theorem pn_11 : plainFor (⟨"com/example/calm_valve/calmvalve/AdmissionWindow", "newest", "()I"⟩ : MethodName) = true := by first | exact plainFor_of_name (by first | (simp [plainName, overriddenIn]; done) | decide +kernel) | decide +kernel
theorem pd_4 : parseMethodDescriptor "()I" = some ⟨[], (some .int)⟩ := by decide +kernel
set_option maxRecDepth 65536 in
set_option maxHeartbeats 40000000 in
theorem rm_newest (l : Launch) (Z : State) (a0 : Array Value) (hw : ∀ d ∈ tables_1, d.before a0 Z = true) (o q : Addr) (n : Nat) (f : Nat → Int64) (v : Nat) (nt nf : Int64) (pp : Int32) (pf per : Int64) (ms : Nat) (h0 : Heap) (n0 : Nat) (hv : v + 1 ≤ n) (hn : n < 1000000) (R : OwR Z h0 n0 o q n f 0 (v + 1) nt nf pp pf per ms) :
    OwCon l (⟨"com/example/calm_valve/calmvalve/AdmissionWindow", "newest", "()I"⟩ : MethodName) prog_1_method_11_code 1 (some .int) ({ frames := 0, cells := 0, slots := 0, locals := 0 } : Room) Z #[(.ref o)] h0 (OwP (some (.int (Int32.ofNat v))) h0) := by
  obtain ⟨E, Fs, Fp, Fe, Fm, Fu, Fo, Fq, Ff, Ft, A, go, gq, nq⟩ := R
  refine OwCon.of pn_11 (Ls := #[.val (.ref o)]) (fun m => by first | (simp [entryFrame, mkF, argsToLocals, Value.category]; done) | rfl) ?_
  intro p e s m below meth c s₁ C X0 e0
  refine ow_aloadN C X0 d11_0 rfl rfl (pc' := 1) rfl ?_
  refine ow_getF C X0 e0 (hw _ (List.mem_of_getElem? (i := 54) rfl)) Fo d11_1 (pc' := 4) rfl (fun T20 X20 e20 => ?_)
  refine ow_aloadN C X20 d11_4 rfl rfl (pc' := 5) rfl ?_
  refine ow_getF C X20 e20 (hw _ (List.mem_of_getElem? (i := 37) rfl)) Fu d11_5 (pc' := 8) rfl (fun T21 X21 e21 => ?_)
  refine ow_iadd C X21 d11_8 (pc' := 9) rfl ?_
  refine ow_iconst (1 : Int32) C X21 d11_9 (by decide) (pc' := 10) rfl ?_
  refine ow_isub C X21 d11_10 (pc' := 11) rfl ?_
  refine ow_aloadN C X21 d11_11 rfl rfl (pc' := 12) rfl ?_
  refine ow_getF C X21 e21 (hw _ (List.mem_of_getElem? (i := 16) rfl)) Fs d11_12 (pc' := 15) rfl (fun T22 X22 e22 => ?_)
  refine ow_arraylength C X22 e22 A (z := (Int32.ofNat n)) rfl d11_15 (pc' := 16) rfl ?_
  refine ow_irem C X22 d11_16 (own_nzN hv hn) (pc' := 17) rfl ?_
  exact ow_retI C X22 d11_17 (Nat.le_of_ble_eq_true rfl) (Nat.le_of_ble_eq_true rfl) ⟨congrArg (fun z => some (Value.int z)) (own_newest hv hn), rfl, e22⟩
theorem d14_0 : decode jdk_29_method_50_code 0 = .ok (.iload_n 0, 1) := by decide +kernel
theorem d14_1 : decode jdk_29_method_50_code 1 = .ok (.iload_n 1, 1) := by decide +kernel
theorem d14_2 : decode jdk_29_method_50_code 2 = .ok (.irem, 1) := by decide +kernel
theorem d14_3 : decode jdk_29_method_50_code 3 = .ok (.istore_n 2, 1) := by decide +kernel
theorem d14_4 : decode jdk_29_method_50_code 4 = .ok (.iload_n 0, 1) := by decide +kernel
theorem d14_5 : decode jdk_29_method_50_code 5 = .ok (.iload_n 1, 1) := by decide +kernel
theorem d14_6 : decode jdk_29_method_50_code 6 = .ok (.ixor, 1) := by decide +kernel
theorem d14_7 : decode jdk_29_method_50_code 7 = .ok (.ifCond .ge 11, 3) := by decide +kernel
theorem d14_10 : decode jdk_29_method_50_code 10 = .ok (.iload_n 2, 1) := by decide +kernel
theorem d14_11 : decode jdk_29_method_50_code 11 = .ok (.ifCond .eq 7, 3) := by decide +kernel
theorem d14_14 : decode jdk_29_method_50_code 14 = .ok (.iload_n 2, 1) := by decide +kernel
theorem d14_15 : decode jdk_29_method_50_code 15 = .ok (.iload_n 1, 1) := by decide +kernel
theorem d14_16 : decode jdk_29_method_50_code 16 = .ok (.iadd, 1) := by decide +kernel
theorem d14_17 : decode jdk_29_method_50_code 17 = .ok (.ireturn, 1) := by decide +kernel
theorem d14_18 : decode jdk_29_method_50_code 18 = .ok (.iload_n 2, 1) := by decide +kernel
theorem d14_19 : decode jdk_29_method_50_code 19 = .ok (.ireturn, 1) := by decide +kernel
theorem pn_14 : plainFor (⟨"java/lang/Math", "floorMod", "(II)I"⟩ : MethodName) = true := by first | exact plainFor_of_name (by first | (simp [plainName, overriddenIn]; done) | decide +kernel) | decide +kernel
set_option maxRecDepth 65536 in
set_option maxHeartbeats 40000000 in
theorem rm_fmod (l : Launch) (Z : State) (a0 : Array Value) (hw : ∀ d ∈ tables_1, d.before a0 Z = true) (k n : Nat) (hk : k < n) (hn : n < 1000000) (h0 : Heap) :
    OwCon l (⟨"java/lang/Math", "floorMod", "(II)I"⟩ : MethodName) jdk_29_method_50_code 3 (some .int) ({ frames := 0, cells := 0, slots := 0, locals := 0 } : Room) Z #[(.int (Int32.ofNat k)), (.int (Int32.ofNat n))] h0 (OwP (some (.int (Int32.ofNat k))) h0) := by
  refine OwCon.of pn_14 (Ls := #[.val (.int (Int32.ofNat k)), .val (.int (Int32.ofNat n)), .unset]) (fun m => by first | (simp [entryFrame, mkF, argsToLocals, Value.category]; done) | rfl) ?_
  intro p e s m below meth c s₁ C X0 e0
  refine ow_iloadN C X0 d14_0 rfl (pc' := 1) rfl ?_
  refine ow_iloadN C X0 d14_1 rfl (pc' := 2) rfl ?_
  refine ow_irem C X0 d14_2 (own_nzK hk hn) (pc' := 3) rfl ?_
  rw [show (Int32.ofNat k) - ((Int32.ofNat k) / (Int32.ofNat n)) * (Int32.ofNat n) = Int32.ofNat k from by rw [own_remN (by omega) (by omega) (by omega), Nat.mod_eq_of_lt hk]]
  refine ow_istoreN C X0 d14_3 (Ls' := #[.val (.int (Int32.ofNat k)), .val (.int (Int32.ofNat n)), .val (.int (Int32.ofNat k))]) rfl (pc' := 4) rfl ?_
  refine ow_iloadN C X0 d14_4 rfl (pc' := 5) rfl ?_
  refine ow_iloadN C X0 d14_5 rfl (pc' := 6) rfl ?_
  refine ow_ixor C X0 d14_6 (pc' := 7) rfl ?_
  refine ow_if_ge C X0 d14_7 (pcT := 18) (pc' := 10) (by decide) (by decide) rfl (fun _ => ?_) (fun bq => absurd bq (own_xor (by omega) (by omega)))
  refine ow_iloadN C X0 d14_18 rfl (pc' := 19) rfl ?_
  exact ow_retI C X0 d14_19 (Nat.le_of_ble_eq_true rfl) (Nat.le_of_ble_eq_true rfl) ⟨rfl, rfl, e0⟩
theorem d7_0 : decode prog_1_method_12_code 0 = .ok (.iconst 4, 1) := by decide +kernel
theorem d7_1 : decode prog_1_method_12_code 1 = .ok (.iconst 2, 1) := by decide +kernel
theorem d7_2 : decode prog_1_method_12_code 2 = .ok (.aload_n 0, 1) := by decide +kernel
theorem d7_3 : decode prog_1_method_12_code 3 = .ok (.getfield 9, 3) := by decide +kernel
theorem d7_6 : decode prog_1_method_12_code 6 = .ok (.arraylength, 1) := by decide +kernel
theorem d7_7 : decode prog_1_method_12_code 7 = .ok (.imul, 1) := by decide +kernel
theorem d7_8 : decode prog_1_method_12_code 8 = .ok (.invokestatic 93, 3) := by decide +kernel
theorem d7_11 : decode prog_1_method_12_code 11 = .ok (.aload_n 0, 1) := by decide +kernel
theorem d7_12 : decode prog_1_method_12_code 12 = .ok (.getfield 32, 3) := by decide +kernel
theorem d7_15 : decode prog_1_method_12_code 15 = .ok (.invokestatic 96, 3) := by decide +kernel
theorem d7_18 : decode prog_1_method_12_code 18 = .ok (.newarray .long, 2) := by decide +kernel
theorem d7_20 : decode prog_1_method_12_code 20 = .ok (.astore_n 1, 1) := by decide +kernel
theorem d7_21 : decode prog_1_method_12_code 21 = .ok (.iconst 0, 1) := by decide +kernel
theorem d7_22 : decode prog_1_method_12_code 22 = .ok (.istore_n 2, 1) := by decide +kernel
theorem d7_23 : decode prog_1_method_12_code 23 = .ok (.iload_n 2, 1) := by decide +kernel
theorem d7_24 : decode prog_1_method_12_code 24 = .ok (.aload_n 0, 1) := by decide +kernel
theorem d7_25 : decode prog_1_method_12_code 25 = .ok (.getfield 35, 3) := by decide +kernel
theorem d7_28 : decode prog_1_method_12_code 28 = .ok (.if_icmp .ge 29, 3) := by decide +kernel
theorem d7_31 : decode prog_1_method_12_code 31 = .ok (.aload_n 1, 1) := by decide +kernel
theorem d7_32 : decode prog_1_method_12_code 32 = .ok (.iload_n 2, 1) := by decide +kernel
theorem d7_33 : decode prog_1_method_12_code 33 = .ok (.aload_n 0, 1) := by decide +kernel
theorem d7_34 : decode prog_1_method_12_code 34 = .ok (.getfield 9, 3) := by decide +kernel
theorem d7_37 : decode prog_1_method_12_code 37 = .ok (.aload_n 0, 1) := by decide +kernel
theorem d7_38 : decode prog_1_method_12_code 38 = .ok (.getfield 44, 3) := by decide +kernel
theorem d7_41 : decode prog_1_method_12_code 41 = .ok (.iload_n 2, 1) := by decide +kernel
theorem d7_42 : decode prog_1_method_12_code 42 = .ok (.iadd, 1) := by decide +kernel
theorem d7_43 : decode prog_1_method_12_code 43 = .ok (.aload_n 0, 1) := by decide +kernel
theorem d7_44 : decode prog_1_method_12_code 44 = .ok (.getfield 9, 3) := by decide +kernel
theorem d7_47 : decode prog_1_method_12_code 47 = .ok (.arraylength, 1) := by decide +kernel
theorem d7_48 : decode prog_1_method_12_code 48 = .ok (.irem, 1) := by decide +kernel
theorem d7_49 : decode prog_1_method_12_code 49 = .ok (.laload, 1) := by decide +kernel
theorem d7_50 : decode prog_1_method_12_code 50 = .ok (.lastore, 1) := by decide +kernel
theorem d7_51 : decode prog_1_method_12_code 51 = .ok (.iinc 2 1, 3) := by decide +kernel
theorem d7_54 : decode prog_1_method_12_code 54 = .ok (.goto (-31), 3) := by decide +kernel
theorem d7_57 : decode prog_1_method_12_code 57 = .ok (.aload_n 0, 1) := by decide +kernel
theorem d7_58 : decode prog_1_method_12_code 58 = .ok (.getfield 13, 3) := by decide +kernel
theorem d7_61 : decode prog_1_method_12_code 61 = .ok (.ifCond .lt 24, 3) := by decide +kernel
theorem d7_64 : decode prog_1_method_12_code 64 = .ok (.aload_n 0, 1) := by decide +kernel
theorem d7_65 : decode prog_1_method_12_code 65 = .ok (.aload_n 0, 1) := by decide +kernel
theorem d7_66 : decode prog_1_method_12_code 66 = .ok (.getfield 13, 3) := by decide +kernel
theorem d7_69 : decode prog_1_method_12_code 69 = .ok (.aload_n 0, 1) := by decide +kernel
theorem d7_70 : decode prog_1_method_12_code 70 = .ok (.getfield 44, 3) := by decide +kernel
theorem d7_73 : decode prog_1_method_12_code 73 = .ok (.isub, 1) := by decide +kernel
theorem d7_74 : decode prog_1_method_12_code 74 = .ok (.aload_n 0, 1) := by decide +kernel
theorem d7_75 : decode prog_1_method_12_code 75 = .ok (.getfield 9, 3) := by decide +kernel
theorem d7_78 : decode prog_1_method_12_code 78 = .ok (.arraylength, 1) := by decide +kernel
theorem d7_79 : decode prog_1_method_12_code 79 = .ok (.invokestatic 98, 3) := by decide +kernel
theorem d7_82 : decode prog_1_method_12_code 82 = .ok (.putfield 13, 3) := by decide +kernel
theorem d7_85 : decode prog_1_method_12_code 85 = .ok (.aload_n 0, 1) := by decide +kernel
theorem d7_86 : decode prog_1_method_12_code 86 = .ok (.aload_n 1, 1) := by decide +kernel
theorem d7_87 : decode prog_1_method_12_code 87 = .ok (.putfield 9, 3) := by decide +kernel
theorem d7_90 : decode prog_1_method_12_code 90 = .ok (.aload_n 0, 1) := by decide +kernel
theorem d7_91 : decode prog_1_method_12_code 91 = .ok (.iconst 0, 1) := by decide +kernel
theorem d7_92 : decode prog_1_method_12_code 92 = .ok (.putfield 44, 3) := by decide +kernel
theorem d7_95 : decode prog_1_method_12_code 95 = .ok (.return_, 1) := by decide +kernel
theorem pn_7 : plainFor (⟨"com/example/calm_valve/calmvalve/AdmissionWindow", "grow", "()V"⟩ : MethodName) = true := by first | exact plainFor_of_name (by first | (simp [plainName, overriddenIn]; done) | decide +kernel) | decide +kernel
theorem pd_5 : parseMethodDescriptor "()V" = some ⟨[], none⟩ := by decide +kernel
set_option maxRecDepth 65536 in
set_option maxHeartbeats 40000000 in
theorem lp_grow {p : Program} {e : Env} {R : Room} {s : State} {m : MethodId} {args : Array Value} {below : List Frame} {meth : Method} {c : Code} {D : State → Outcome → Prop} (l : Launch) (Z : State) (a0 : Array Value) (hw : ∀ d ∈ tables_1, d.before a0 Z = true) (o q : Addr) (n : Nat) (f : Nat → Int64) (nt nf : Int64) (pp : Int32) (pf per : Int64) (ms : Nat) (h0 : Heap) (n0 : Nat) (qn : Addr) (gn : h0.size ≤ qn) (gn0 : n0 ≤ qn) (n1 : o ≠ qn) (n2 : q ≠ qn) (hn : n < 1000000) (hnm : n < ms) (hms : ms < 1000000) (cc ss : Nat) (C : OwC p Z s m meth c "com/example/calm_valve/calmvalve/AdmissionWindow" "grow" prog_1_method_12_code 3 none)
    (kN : ∀ T h locs, OwR Z h n0 o q n f 0 n nt nf pp pf per ms → OwA Z h qn .long (own_nn n ms) (fun j => .long (if j < n then f j else 0)) → Fr n0 locs → Keep h0 h [o] → Stand p l e R s m args below meth c T locs cc ss → T.heap = h → OwF p e below D T (mkF m 57 #[.val (.ref o), .val (.ref qn), .val (.int (Int32.ofNat n))] []))
    : ∀ (d i : Nat), i + d = n → ∀ T h locs, OwR Z h n0 o q n f 0 n nt nf pp pf per ms → OwA Z h qn .long (own_nn n ms) (fun j => .long (if j < i then f j else 0)) → Fr n0 locs → Keep h0 h [o] → Stand p l e R s m args below meth c T locs cc ss → T.heap = h → OwF p e below D T (mkF m 23 #[.val (.ref o), .val (.ref qn), .val (.int (Int32.ofNat i))] []) := by
  intro d
  induction d with
  | zero =>
    intro i hi Tz hz locs Rz Az Nz Kz Xz ez
    obtain rfl : i = n := by omega
    have Rk := Rz
    obtain ⟨E, Fs, Fp, Fe, Fm, Fu, Fo, Fq, Ff, Ft, A, go, gq, nq⟩ := Rz
    refine ow_iloadN C Xz d7_23 rfl (pc' := 24) rfl ?_
    refine ow_aloadN C Xz d7_24 rfl rfl (pc' := 25) rfl ?_
    refine ow_getF C Xz ez (hw _ (List.mem_of_getElem? (i := 37) rfl)) Fu d7_25 (pc' := 28) rfl (fun T23 X23 e23 => ?_)
    refine ow_icmp_ge C X23 d7_28 (pcT := 57) (pc' := 31) (by decide) (by decide) rfl (fun _ => ?_) (fun bq => absurd bq (fun w => absurd ((own_ltN (by omega) (by omega)).mp w) (Nat.lt_irrefl _)))
    exact kN T23 _ _ Rk Az Nz Kz X23 e23
  | succ d ih =>
    intro i hi Tz hz locs Rz Az Nz Kz Xz ez
    have hi : i < n := by omega
    obtain ⟨E, Fs, Fp, Fe, Fm, Fu, Fo, Fq, Ff, Ft, A, go, gq, nq⟩ := Rz
    refine ow_iloadN C Xz d7_23 rfl (pc' := 24) rfl ?_
    refine ow_aloadN C Xz d7_24 rfl rfl (pc' := 25) rfl ?_
    refine ow_getF C Xz ez (hw _ (List.mem_of_getElem? (i := 37) rfl)) Fu d7_25 (pc' := 28) rfl (fun T24 X24 e24 => ?_)
    refine ow_icmp_ge C X24 d7_28 (pcT := 57) (pc' := 31) (by decide) (by decide) rfl (fun bq => absurd ((own_ltN (by omega) (by omega)).mpr hi) bq) (fun _ => ?_)
    refine ow_aloadN C X24 d7_31 rfl rfl (pc' := 32) rfl ?_
    refine ow_iloadN C X24 d7_32 rfl (pc' := 33) rfl ?_
    refine ow_aloadN C X24 d7_33 rfl rfl (pc' := 34) rfl ?_
    refine ow_getF C X24 e24 (hw _ (List.mem_of_getElem? (i := 16) rfl)) Fs d7_34 (pc' := 37) rfl (fun T25 X25 e25 => ?_)
    refine ow_aloadN C X25 d7_37 rfl rfl (pc' := 38) rfl ?_
    refine ow_getF C X25 e25 (hw _ (List.mem_of_getElem? (i := 54) rfl)) Fo d7_38 (pc' := 41) rfl (fun T26 X26 e26 => ?_)
    refine ow_iloadN C X26 d7_41 rfl (pc' := 42) rfl ?_
    refine ow_iadd C X26 d7_42 (pc' := 43) rfl ?_
    refine ow_aloadN C X26 d7_43 rfl rfl (pc' := 44) rfl ?_
    refine ow_getF C X26 e26 (hw _ (List.mem_of_getElem? (i := 16) rfl)) Fs d7_44 (pc' := 47) rfl (fun T27 X27 e27 => ?_)
    refine ow_arraylength C X27 e27 A (z := (Int32.ofNat n)) rfl d7_47 (pc' := 48) rfl ?_
    refine ow_irem C X27 d7_48 (own_nzK hi hn) (pc' := 49) rfl ?_
    rw [show ((Int32.ofNat 0) + (Int32.ofNat i)) - (((Int32.ofNat 0) + (Int32.ofNat i)) / (Int32.ofNat n)) * (Int32.ofNat n) = Int32.ofNat i from by rw [own_add0, own_remN (by omega) (by omega) (by omega), Nat.mod_eq_of_lt hi]]
    refine ow_laload (i := i) C X27 e27 A (own_ix0 (by omega)) (own_ixN (by omega)) (by first | exact hi | (have := own_nn_gt hnm; omega)) (v := (.long (f i))) rfl d7_49 (pc' := 50) rfl ?_
    refine ow_lastore (i := i) C X27 e27 Az (own_ix0 (by omega)) (own_ixN (by omega)) (by first | exact hi | (have := own_nn_gt hnm; omega)) d7_50 (pc' := 51) rfl (fun T28 h28 X28 e28 W28 => ?_)
    have E28_0 := E.wr W28
    have F28_1 := Fs.other W28 (Or.inl n1)
    have F28_2 := Fp.other W28 (Or.inl n1)
    have F28_3 := Fe.other W28 (Or.inl n1)
    have F28_4 := Fm.other W28 (Or.inl n1)
    have F28_5 := Fu.other W28 (Or.inl n1)
    have F28_6 := Fo.other W28 (Or.inl n1)
    have F28_7 := Fq.other W28 (Or.inl n1)
    have F28_8 := Ff.other W28 (Or.inl n1)
    have F28_9 := Ft.other W28 (Or.inl n1)
    have A28_q := A.other W28 n2
    have A28 : OwA Z h28 qn .long (own_nn n ms) (fun j => .long (if j = i then (f i) else (if j < i then f j else 0))) := (Az.set W28).congr (fun j _ => by (try dsimp only); split <;> rfl)
    have K28 : Keep h0 h28 [o] := Kz.wr W28 (Or.inr gn)
    have N28 := Fr.snoc X28 Nz gn0
    refine ow_iinc (1 : Int32) C X28 d7_51 (by decide) rfl (Ls' := #[.val (.ref o), .val (.ref qn), .val (.int ((Int32.ofNat i) + (1 : Int32)))]) rfl (pc' := 54) rfl ?_
    refine ow_goto C X28 d7_54 (pcT := 23) (by decide) (by decide) ?_
    rw [own_inc i]
    refine ih (i + 1) (by omega) T28 _ _ ⟨E28_0, F28_1, F28_2, F28_3, F28_4, F28_5, F28_6, F28_7, F28_8, F28_9, A28_q, go, gq, nq⟩ ?_ N28 K28 X28 e28
    exact A28.congr (fun j _ => by by_cases w : j = i; rw [if_pos w, if_pos (by omega), w]; rw [if_neg w]; by_cases w2 : j < i; rw [if_pos w2, if_pos (by omega)]; rw [if_neg w2, if_neg (by omega)])
theorem own_mm {n ms : Nat} (hn : n < 1000000) (hm : ms < 1000000) : own_min (own_max (4 : Int32) ((2 : Int32) * (Int32.ofNat n))) (Int32.ofNat ms) = Int32.ofNat (own_nn n ms) := by
  unfold own_min own_max; exact own_nn32 hn hm
theorem own_nneg {k : Nat} (h : k < 1000000) : ¬ Int32.ofNat k < 0 := own_ix0 (by omega)
theorem own_subz (k : Nat) : Int32.ofNat k - Int32.ofNat 0 = Int32.ofNat k := by
  rw [show Int32.ofNat 0 = 0 from rfl, Int32.sub_zero]
set_option maxRecDepth 65536 in
set_option maxHeartbeats 40000000 in
theorem rm_growM (l : Launch) (Z : State) (a0 : Array Value) (hw : ∀ d ∈ tables_1, d.before a0 Z = true) (o q : Addr) (n : Nat) (f : Nat → Int64) (u : Nat) (nt nf : Int64) (pp : Int32) (pf per : Int64) (ms : Nat) (h0 : Heap) (n0 : Nat) (hun : n = u) (hnm : n < ms) (hms : ms < 1000000) (hp : pp = -1) (R : OwR Z h0 n0 o q n f 0 u nt nf pp pf per ms) :
    OwCon l (⟨"com/example/calm_valve/calmvalve/AdmissionWindow", "grow", "()V"⟩ : MethodName) prog_1_method_12_code 3 none ({ frames := 2, cells := 1, slots := (own_nn n ms), locals := 60 } : Room) Z #[(.ref o)] h0 (fun v h L => v = none ∧ Fr n0 L ∧ ∃ q', OwR Z h n0 o q' (own_nn n ms) (fun j => if j < n then f j else 0) 0 u nt nf pp pf per ms) := by
  subst hun
  have hn : n < 1000000 := by omega
  subst hp
  obtain ⟨E, Fs, Fp, Fe, Fm, Fu, Fo, Fq, Ff, Ft, A, go, gq, nq⟩ := R
  have Z0 : n0 ≤ h0.size := Nat.le_of_lt (Nat.lt_of_le_of_lt go E.lt)
  refine OwCon.of pn_7 (Ls := #[.val (.ref o), .unset, .unset]) (fun m => by first | (simp [entryFrame, mkF, argsToLocals, Value.category]; done) | rfl) ?_
  intro p e s m below meth c s₁ C X0 e0
  refine ow_iconst (4 : Int32) C X0 d7_0 (by decide) (pc' := 1) rfl ?_
  refine ow_iconst (2 : Int32) C X0 d7_1 (by decide) (pc' := 2) rfl ?_
  refine ow_aloadN C X0 d7_2 rfl rfl (pc' := 3) rfl ?_
  refine ow_getF C X0 e0 (hw _ (List.mem_of_getElem? (i := 16) rfl)) Fs d7_3 (pc' := 6) rfl (fun T29 X29 e29 => ?_)
  refine ow_arraylength C X29 e29 A (z := (Int32.ofNat n)) rfl d7_6 (pc' := 7) rfl ?_
  refine ow_imul C X29 d7_7 (pc' := 8) rfl ?_
  refine ow_callSP C X29 e29 (hw _ (List.mem_of_getElem? (i := 48) rfl)) (hw _ (List.mem_of_getElem? (i := 49) rfl)) (hw _ (List.mem_of_getElem? (i := 26) rfl)) (hw _ (List.mem_of_getElem? (i := 50) rfl)) (by decide) (rm_max l Z a0 hw (4 : Int32) ((2 : Int32) * (Int32.ofNat n)) h0) ⟨rfl, rfl⟩ pd_1 rfl (argsL := [(.int (4 : Int32)), (.int ((2 : Int32) * (Int32.ofNat n)))]) (rest := []) rfl rfl d7_8 (Nat.le_of_ble_eq_true rfl) (Nat.le_of_ble_eq_true rfl) (Nat.le_of_ble_eq_true rfl) (Nat.le_of_ble_eq_true rfl) (pc' := 11) rfl (fun T30 X30 e30 => ?_)
  refine ow_aloadN C X30 d7_11 rfl rfl (pc' := 12) rfl ?_
  refine ow_getF C X30 e30 (hw _ (List.mem_of_getElem? (i := 30) rfl)) Fm d7_12 (pc' := 15) rfl (fun T31 X31 e31 => ?_)
  refine ow_callSP C X31 e31 (hw _ (List.mem_of_getElem? (i := 51) rfl)) (hw _ (List.mem_of_getElem? (i := 52) rfl)) (hw _ (List.mem_of_getElem? (i := 26) rfl)) (hw _ (List.mem_of_getElem? (i := 53) rfl)) (by decide) (rm_min l Z a0 hw (own_max (4 : Int32) ((2 : Int32) * (Int32.ofNat n))) (Int32.ofNat ms) h0) ⟨rfl, rfl⟩ pd_1 rfl (argsL := [(.int (own_max (4 : Int32) ((2 : Int32) * (Int32.ofNat n)))), (.int (Int32.ofNat ms))]) (rest := []) rfl rfl d7_15 (Nat.le_of_ble_eq_true rfl) (Nat.le_of_ble_eq_true rfl) (Nat.le_of_ble_eq_true rfl) (Nat.le_of_ble_eq_true rfl) (pc' := 18) rfl (fun T32 X32 e32 => ?_)
  rw [own_mm hn hms]
  refine ow_newarr C X32 e32 (hw _ (List.mem_of_getElem? (i := 15) rfl)) d7_18 (N := (own_nn n ms)) (cap := (own_nn n ms)) (own_ix0 (by have := own_nn_le n ms; omega)) (own_ixN (by have := own_nn_le n ms; omega)) (Nat.le_refl _) (by have := own_nn_le n ms; omega) (Nat.le_of_ble_eq_true rfl) (Nat.le_of_eq (Nat.zero_add _)) (pc' := 20) rfl (fun T33 h33 a33 g33 X33 e33 Ex33 A33 => ?_)
  have A33 : OwA Z h33 a33 .long (own_nn n ms) (fun _ => .long 0) := A33
  have lq33_o : o < a33 := Nat.lt_of_lt_of_le E.lt (Nat.le_of_eq g33.symm)
  have lq33_q : q < a33 := Nat.lt_of_lt_of_le A.lt (Nat.le_of_eq g33.symm)
  have E33_0 := E.ext Ex33
  have F33_1 := Fs.ext Ex33
  have F33_2 := Fp.ext Ex33
  have F33_3 := Fe.ext Ex33
  have F33_4 := Fm.ext Ex33
  have F33_5 := Fu.ext Ex33
  have F33_6 := Fo.ext Ex33
  have F33_7 := Fq.ext Ex33
  have F33_8 := Ff.ext Ex33
  have F33_9 := Ft.ext Ex33
  have A33_q := A.ext Ex33
  have Gh33 : h0.size ≤ a33 := Nat.le_trans (Keep.refl h0 [o]).1 (Nat.le_of_eq g33.symm)
  have K33 : Keep h0 h33 [o] := (Keep.refl h0 [o]).ext Ex33
  have Ge33 : n0 ≤ a33 := Nat.le_trans Z0 (Nat.le_of_eq g33.symm)
  have Z33 : n0 ≤ h33.size := Nat.le_trans Z0 Ex33.1
  refine ow_astoreN C X33 d7_20 rfl (Ls' := #[.val (.ref o), .val (.ref a33), .unset]) rfl (pc' := 21) rfl ?_
  refine ow_iconst (0 : Int32) C X33 d7_21 (by decide) (pc' := 22) rfl ?_
  refine ow_istoreN C X33 d7_22 (Ls' := #[.val (.ref o), .val (.ref a33), .val (.int (0 : Int32))]) rfl (pc' := 23) rfl ?_
  refine lp_grow l Z a0 hw o q n f nt nf (-1 : Int32) pf per ms h0 n0 a33 Gh33 Ge33 (Nat.ne_of_lt lq33_o) (Nat.ne_of_lt lq33_q) hn hnm hms _ _ C ?_ n 0 (Nat.zero_add n) T33 _ _ ⟨E33_0, F33_1, F33_2, F33_3, F33_4, F33_5, F33_6, F33_7, F33_8, F33_9, A33_q, go, gq, nq⟩ (A33.congr (fun j _ => by rw [if_neg (Nat.not_lt_zero j)])) (Fr.nil n0) K33 X33 e33
  intro Tw hz locs Rw Bw Nw Kw Xw ew
  obtain ⟨Ew, Fsw, Fpw, Few, Fmw, Fuw, Fow, Fqw, Ffw, Ftw, Aw, gow, gqw, nqw⟩ := Rw
  refine ow_aloadN C Xw d7_57 rfl rfl (pc' := 58) rfl ?_
  refine ow_getF C Xw ew (hw _ (List.mem_of_getElem? (i := 18) rfl)) Fpw d7_58 (pc' := 61) rfl (fun T34 X34 e34 => ?_)
  refine ow_if_lt C X34 d7_61 (pcT := 85) (pc' := 64) (by decide) (by decide) rfl (fun _ => ?_) (fun bq => absurd (by decide) bq)
  refine ow_aloadN C X34 d7_85 rfl rfl (pc' := 86) rfl ?_
  refine ow_aloadN C X34 d7_86 rfl rfl (pc' := 87) rfl ?_
  refine ow_putF C X34 e34 (hw _ (List.mem_of_getElem? (i := 16) rfl)) Fsw Ew (Or.inl (hw _ (List.mem_of_getElem? (i := 17) rfl))) (hw _ (List.mem_of_getElem? (i := 7) rfl)) (ty := (.array .long)) (by decide) rfl rfl d7_87 (pc' := 90) rfl (fun T35 h35 X35 e35 W35 => ?_)
  have E35_0 := Ew.wr W35
  have F35_1 := Fsw.same W35
  have F35_2 := Fpw.other W35 (Or.inr (slot_ne (Or.inl (hw _ (List.mem_of_getElem? (i := 19) rfl))) (Or.inl (hw _ (List.mem_of_getElem? (i := 17) rfl))) (by decide) (t := .int) (t' := (.array .long)) (by decide) (by decide)))
  have F35_3 := Few.other W35 (Or.inr (slot_ne (Or.inr (hw _ (List.mem_of_getElem? (i := 29) rfl))) (Or.inl (hw _ (List.mem_of_getElem? (i := 17) rfl))) (by decide) (t := .long) (t' := (.array .long)) (by decide) (by decide)))
  have F35_4 := Fmw.other W35 (Or.inr (slot_ne (Or.inr (hw _ (List.mem_of_getElem? (i := 31) rfl))) (Or.inl (hw _ (List.mem_of_getElem? (i := 17) rfl))) (by decide) (t := .int) (t' := (.array .long)) (by decide) (by decide)))
  have F35_5 := Fuw.other W35 (Or.inr (slot_ne (Or.inl (hw _ (List.mem_of_getElem? (i := 38) rfl))) (Or.inl (hw _ (List.mem_of_getElem? (i := 17) rfl))) (by decide) (t := .int) (t' := (.array .long)) (by decide) (by decide)))
  have F35_6 := Fow.other W35 (Or.inr (slot_ne (Or.inl (hw _ (List.mem_of_getElem? (i := 55) rfl))) (Or.inl (hw _ (List.mem_of_getElem? (i := 17) rfl))) (by decide) (t := .int) (t' := (.array .long)) (by decide) (by decide)))
  have F35_7 := Fqw.other W35 (Or.inr (slot_ne (Or.inl (hw _ (List.mem_of_getElem? (i := 81) rfl))) (Or.inl (hw _ (List.mem_of_getElem? (i := 17) rfl))) (by decide) (t := .long) (t' := (.array .long)) (by decide) (by decide)))
  have F35_8 := Ffw.other W35 (Or.inr (slot_ne (Or.inl (hw _ (List.mem_of_getElem? (i := 60) rfl))) (Or.inl (hw _ (List.mem_of_getElem? (i := 17) rfl))) (by decide) (t := .long) (t' := (.array .long)) (by decide) (by decide)))
  have F35_9 := Ftw.other W35 (Or.inr (slot_ne (Or.inl (hw _ (List.mem_of_getElem? (i := 62) rfl))) (Or.inl (hw _ (List.mem_of_getElem? (i := 17) rfl))) (by decide) (t := .long) (t' := (.array .long)) (by decide) (by decide)))
  have A35_q := Aw.other W35 (Ne.symm nqw)
  have A35_a33 := Bw.other W35 (Ne.symm (Nat.ne_of_lt lq33_o))
  have N35 := Fr.snoc X35 Nw gow
  refine ow_aloadN C X35 d7_90 rfl rfl (pc' := 91) rfl ?_
  refine ow_iconst (0 : Int32) C X35 d7_91 (by decide) (pc' := 92) rfl ?_
  refine ow_putF C X35 e35 (hw _ (List.mem_of_getElem? (i := 54) rfl)) F35_6 E35_0 (Or.inl (hw _ (List.mem_of_getElem? (i := 55) rfl))) (hw _ (List.mem_of_getElem? (i := 7) rfl)) (ty := .int) (by decide) rfl rfl d7_92 (pc' := 95) rfl (fun T36 h36 X36 e36 W36 => ?_)
  have E36_0 := E35_0.wr W36
  have F36_1 := F35_1.other W36 (Or.inr (slot_ne (Or.inl (hw _ (List.mem_of_getElem? (i := 17) rfl))) (Or.inl (hw _ (List.mem_of_getElem? (i := 55) rfl))) (by decide) (t := (.array .long)) (t' := .int) (by decide) (by decide)))
  have F36_2 := F35_2.other W36 (Or.inr (slot_ne (Or.inl (hw _ (List.mem_of_getElem? (i := 19) rfl))) (Or.inl (hw _ (List.mem_of_getElem? (i := 55) rfl))) (by decide) (t := .int) (t' := .int) (by decide) (by decide)))
  have F36_3 := F35_3.other W36 (Or.inr (slot_ne (Or.inr (hw _ (List.mem_of_getElem? (i := 29) rfl))) (Or.inl (hw _ (List.mem_of_getElem? (i := 55) rfl))) (by decide) (t := .long) (t' := .int) (by decide) (by decide)))
  have F36_4 := F35_4.other W36 (Or.inr (slot_ne (Or.inr (hw _ (List.mem_of_getElem? (i := 31) rfl))) (Or.inl (hw _ (List.mem_of_getElem? (i := 55) rfl))) (by decide) (t := .int) (t' := .int) (by decide) (by decide)))
  have F36_5 := F35_5.other W36 (Or.inr (slot_ne (Or.inl (hw _ (List.mem_of_getElem? (i := 38) rfl))) (Or.inl (hw _ (List.mem_of_getElem? (i := 55) rfl))) (by decide) (t := .int) (t' := .int) (by decide) (by decide)))
  have F36_6 := F35_6.same W36
  have F36_7 := F35_7.other W36 (Or.inr (slot_ne (Or.inl (hw _ (List.mem_of_getElem? (i := 81) rfl))) (Or.inl (hw _ (List.mem_of_getElem? (i := 55) rfl))) (by decide) (t := .long) (t' := .int) (by decide) (by decide)))
  have F36_8 := F35_8.other W36 (Or.inr (slot_ne (Or.inl (hw _ (List.mem_of_getElem? (i := 60) rfl))) (Or.inl (hw _ (List.mem_of_getElem? (i := 55) rfl))) (by decide) (t := .long) (t' := .int) (by decide) (by decide)))
  have F36_9 := F35_9.other W36 (Or.inr (slot_ne (Or.inl (hw _ (List.mem_of_getElem? (i := 62) rfl))) (Or.inl (hw _ (List.mem_of_getElem? (i := 55) rfl))) (by decide) (t := .long) (t' := .int) (by decide) (by decide)))
  have A36_q := A35_q.other W36 (Ne.symm nqw)
  have A36_a33 := A35_a33.other W36 (Ne.symm (Nat.ne_of_lt lq33_o))
  have N36 := Fr.snoc X36 N35 gow
  refine ow_retV C X36 d7_95 (Nat.le_of_ble_eq_true rfl) (Nat.le_of_eq (Nat.zero_add _)) ?_
  rw [e36]
  exact ⟨rfl, N36, a33, ⟨E36_0, F36_1, F36_2, F36_3, F36_4, F36_5, F36_6, F36_7, F36_8, F36_9, A36_a33, gow, Ge33, (Nat.ne_of_lt lq33_o)⟩⟩
set_option maxRecDepth 65536 in
set_option maxHeartbeats 40000000 in
theorem rm_growK (l : Launch) (Z : State) (a0 : Array Value) (hw : ∀ d ∈ tables_1, d.before a0 Z = true) (o q : Addr) (n : Nat) (f : Nat → Int64) (u : Nat) (nt nf : Int64) (pp : Int32) (pf per : Int64) (ms : Nat) (h0 : Heap) (n0 : Nat) (hun : n = u) (hnm : n < ms) (hms : ms < 1000000) (hp : ∃ k, k < n ∧ pp = Int32.ofNat k) (R : OwR Z h0 n0 o q n f 0 u nt nf pp pf per ms) :
    OwCon l (⟨"com/example/calm_valve/calmvalve/AdmissionWindow", "grow", "()V"⟩ : MethodName) prog_1_method_12_code 3 none ({ frames := 2, cells := 1, slots := (own_nn n ms), locals := 60 } : Room) Z #[(.ref o)] h0 (fun v h L => v = none ∧ Fr n0 L ∧ ∃ q', OwR Z h n0 o q' (own_nn n ms) (fun j => if j < n then f j else 0) 0 u nt nf pp pf per ms) := by
  subst hun
  have hn : n < 1000000 := by omega
  obtain ⟨k, hk, rfl⟩ := hp
  obtain ⟨E, Fs, Fp, Fe, Fm, Fu, Fo, Fq, Ff, Ft, A, go, gq, nq⟩ := R
  have Z0 : n0 ≤ h0.size := Nat.le_of_lt (Nat.lt_of_le_of_lt go E.lt)
  refine OwCon.of pn_7 (Ls := #[.val (.ref o), .unset, .unset]) (fun m => by first | (simp [entryFrame, mkF, argsToLocals, Value.category]; done) | rfl) ?_
  intro p e s m below meth c s₁ C X0 e0
  refine ow_iconst (4 : Int32) C X0 d7_0 (by decide) (pc' := 1) rfl ?_
  refine ow_iconst (2 : Int32) C X0 d7_1 (by decide) (pc' := 2) rfl ?_
  refine ow_aloadN C X0 d7_2 rfl rfl (pc' := 3) rfl ?_
  refine ow_getF C X0 e0 (hw _ (List.mem_of_getElem? (i := 16) rfl)) Fs d7_3 (pc' := 6) rfl (fun T37 X37 e37 => ?_)
  refine ow_arraylength C X37 e37 A (z := (Int32.ofNat n)) rfl d7_6 (pc' := 7) rfl ?_
  refine ow_imul C X37 d7_7 (pc' := 8) rfl ?_
  refine ow_callSP C X37 e37 (hw _ (List.mem_of_getElem? (i := 48) rfl)) (hw _ (List.mem_of_getElem? (i := 49) rfl)) (hw _ (List.mem_of_getElem? (i := 26) rfl)) (hw _ (List.mem_of_getElem? (i := 50) rfl)) (by decide) (rm_max l Z a0 hw (4 : Int32) ((2 : Int32) * (Int32.ofNat n)) h0) ⟨rfl, rfl⟩ pd_1 rfl (argsL := [(.int (4 : Int32)), (.int ((2 : Int32) * (Int32.ofNat n)))]) (rest := []) rfl rfl d7_8 (Nat.le_of_ble_eq_true rfl) (Nat.le_of_ble_eq_true rfl) (Nat.le_of_ble_eq_true rfl) (Nat.le_of_ble_eq_true rfl) (pc' := 11) rfl (fun T38 X38 e38 => ?_)
  refine ow_aloadN C X38 d7_11 rfl rfl (pc' := 12) rfl ?_
  refine ow_getF C X38 e38 (hw _ (List.mem_of_getElem? (i := 30) rfl)) Fm d7_12 (pc' := 15) rfl (fun T39 X39 e39 => ?_)
  refine ow_callSP C X39 e39 (hw _ (List.mem_of_getElem? (i := 51) rfl)) (hw _ (List.mem_of_getElem? (i := 52) rfl)) (hw _ (List.mem_of_getElem? (i := 26) rfl)) (hw _ (List.mem_of_getElem? (i := 53) rfl)) (by decide) (rm_min l Z a0 hw (own_max (4 : Int32) ((2 : Int32) * (Int32.ofNat n))) (Int32.ofNat ms) h0) ⟨rfl, rfl⟩ pd_1 rfl (argsL := [(.int (own_max (4 : Int32) ((2 : Int32) * (Int32.ofNat n)))), (.int (Int32.ofNat ms))]) (rest := []) rfl rfl d7_15 (Nat.le_of_ble_eq_true rfl) (Nat.le_of_ble_eq_true rfl) (Nat.le_of_ble_eq_true rfl) (Nat.le_of_ble_eq_true rfl) (pc' := 18) rfl (fun T40 X40 e40 => ?_)
  rw [own_mm hn hms]
  refine ow_newarr C X40 e40 (hw _ (List.mem_of_getElem? (i := 15) rfl)) d7_18 (N := (own_nn n ms)) (cap := (own_nn n ms)) (own_ix0 (by have := own_nn_le n ms; omega)) (own_ixN (by have := own_nn_le n ms; omega)) (Nat.le_refl _) (by have := own_nn_le n ms; omega) (Nat.le_of_ble_eq_true rfl) (Nat.le_of_eq (Nat.zero_add _)) (pc' := 20) rfl (fun T41 h41 a41 g41 X41 e41 Ex41 A41 => ?_)
  have A41 : OwA Z h41 a41 .long (own_nn n ms) (fun _ => .long 0) := A41
  have lq41_o : o < a41 := Nat.lt_of_lt_of_le E.lt (Nat.le_of_eq g41.symm)
  have lq41_q : q < a41 := Nat.lt_of_lt_of_le A.lt (Nat.le_of_eq g41.symm)
  have E41_0 := E.ext Ex41
  have F41_1 := Fs.ext Ex41
  have F41_2 := Fp.ext Ex41
  have F41_3 := Fe.ext Ex41
  have F41_4 := Fm.ext Ex41
  have F41_5 := Fu.ext Ex41
  have F41_6 := Fo.ext Ex41
  have F41_7 := Fq.ext Ex41
  have F41_8 := Ff.ext Ex41
  have F41_9 := Ft.ext Ex41
  have A41_q := A.ext Ex41
  have Gh41 : h0.size ≤ a41 := Nat.le_trans (Keep.refl h0 [o]).1 (Nat.le_of_eq g41.symm)
  have K41 : Keep h0 h41 [o] := (Keep.refl h0 [o]).ext Ex41
  have Ge41 : n0 ≤ a41 := Nat.le_trans Z0 (Nat.le_of_eq g41.symm)
  have Z41 : n0 ≤ h41.size := Nat.le_trans Z0 Ex41.1
  refine ow_astoreN C X41 d7_20 rfl (Ls' := #[.val (.ref o), .val (.ref a41), .unset]) rfl (pc' := 21) rfl ?_
  refine ow_iconst (0 : Int32) C X41 d7_21 (by decide) (pc' := 22) rfl ?_
  refine ow_istoreN C X41 d7_22 (Ls' := #[.val (.ref o), .val (.ref a41), .val (.int (0 : Int32))]) rfl (pc' := 23) rfl ?_
  refine lp_grow l Z a0 hw o q n f nt nf (Int32.ofNat k) pf per ms h0 n0 a41 Gh41 Ge41 (Nat.ne_of_lt lq41_o) (Nat.ne_of_lt lq41_q) hn hnm hms _ _ C ?_ n 0 (Nat.zero_add n) T41 _ _ ⟨E41_0, F41_1, F41_2, F41_3, F41_4, F41_5, F41_6, F41_7, F41_8, F41_9, A41_q, go, gq, nq⟩ (A41.congr (fun j _ => by rw [if_neg (Nat.not_lt_zero j)])) (Fr.nil n0) K41 X41 e41
  intro Tw hz locs Rw Bw Nw Kw Xw ew
  obtain ⟨Ew, Fsw, Fpw, Few, Fmw, Fuw, Fow, Fqw, Ffw, Ftw, Aw, gow, gqw, nqw⟩ := Rw
  refine ow_aloadN C Xw d7_57 rfl rfl (pc' := 58) rfl ?_
  refine ow_getF C Xw ew (hw _ (List.mem_of_getElem? (i := 18) rfl)) Fpw d7_58 (pc' := 61) rfl (fun T42 X42 e42 => ?_)
  refine ow_if_lt C X42 d7_61 (pcT := 85) (pc' := 64) (by decide) (by decide) rfl (fun bq => absurd bq (own_nneg (by omega))) (fun _ => ?_)
  refine ow_aloadN C X42 d7_64 rfl rfl (pc' := 65) rfl ?_
  refine ow_aloadN C X42 d7_65 rfl rfl (pc' := 66) rfl ?_
  refine ow_getF C X42 e42 (hw _ (List.mem_of_getElem? (i := 18) rfl)) Fpw d7_66 (pc' := 69) rfl (fun T43 X43 e43 => ?_)
  refine ow_aloadN C X43 d7_69 rfl rfl (pc' := 70) rfl ?_
  refine ow_getF C X43 e43 (hw _ (List.mem_of_getElem? (i := 54) rfl)) Fow d7_70 (pc' := 73) rfl (fun T44 X44 e44 => ?_)
  refine ow_isub C X44 d7_73 (pc' := 74) rfl ?_
  rw [own_subz k]
  refine ow_aloadN C X44 d7_74 rfl rfl (pc' := 75) rfl ?_
  refine ow_getF C X44 e44 (hw _ (List.mem_of_getElem? (i := 16) rfl)) Fsw d7_75 (pc' := 78) rfl (fun T45 X45 e45 => ?_)
  refine ow_arraylength C X45 e45 Aw (z := (Int32.ofNat n)) rfl d7_78 (pc' := 79) rfl ?_
  refine ow_callS C X45 e45 (hw _ (List.mem_of_getElem? (i := 82) rfl)) (hw _ (List.mem_of_getElem? (i := 83) rfl)) (hw _ (List.mem_of_getElem? (i := 26) rfl)) (hw _ (List.mem_of_getElem? (i := 84) rfl)) (by decide) (rm_fmod l Z a0 hw k n hk hn hz) pd_1 rfl (argsL := [(.int (Int32.ofNat k)), (.int (Int32.ofNat n))]) (rest := [(.ref o)]) rfl rfl d7_79 (Nat.le_of_ble_eq_true rfl) (Nat.le_of_ble_eq_true rfl) (Nat.le_of_ble_eq_true rfl) (Nat.le_of_eq (by rw [Nat.zero_add]; rfl)) (pc' := 82) rfl (fun T46 v46 L46 X46 Q46 => ?_)
  obtain ⟨rfl, rfl, e46⟩ := Q46
  rw [List.append_nil] at X46
  show OwF p e below _ T46 (mkF m 82 #[.val (.ref o), .val (.ref a41), .val (.int (Int32.ofNat n))] [(.int (Int32.ofNat k)), (.ref o)])
  refine ow_putF C X46 e46 (hw _ (List.mem_of_getElem? (i := 18) rfl)) Fpw Ew (Or.inl (hw _ (List.mem_of_getElem? (i := 19) rfl))) (hw _ (List.mem_of_getElem? (i := 7) rfl)) (ty := .int) (by decide) rfl rfl d7_82 (pc' := 85) rfl (fun T47 h47 X47 e47 W47 => ?_)
  have E47_0 := Ew.wr W47
  have F47_1 := Fsw.other W47 (Or.inr (slot_ne (Or.inl (hw _ (List.mem_of_getElem? (i := 17) rfl))) (Or.inl (hw _ (List.mem_of_getElem? (i := 19) rfl))) (by decide) (t := (.array .long)) (t' := .int) (by decide) (by decide)))
  have F47_2 := Fpw.same W47
  have F47_3 := Few.other W47 (Or.inr (slot_ne (Or.inr (hw _ (List.mem_of_getElem? (i := 29) rfl))) (Or.inl (hw _ (List.mem_of_getElem? (i := 19) rfl))) (by decide) (t := .long) (t' := .int) (by decide) (by decide)))
  have F47_4 := Fmw.other W47 (Or.inr (slot_ne (Or.inr (hw _ (List.mem_of_getElem? (i := 31) rfl))) (Or.inl (hw _ (List.mem_of_getElem? (i := 19) rfl))) (by decide) (t := .int) (t' := .int) (by decide) (by decide)))
  have F47_5 := Fuw.other W47 (Or.inr (slot_ne (Or.inl (hw _ (List.mem_of_getElem? (i := 38) rfl))) (Or.inl (hw _ (List.mem_of_getElem? (i := 19) rfl))) (by decide) (t := .int) (t' := .int) (by decide) (by decide)))
  have F47_6 := Fow.other W47 (Or.inr (slot_ne (Or.inl (hw _ (List.mem_of_getElem? (i := 55) rfl))) (Or.inl (hw _ (List.mem_of_getElem? (i := 19) rfl))) (by decide) (t := .int) (t' := .int) (by decide) (by decide)))
  have F47_7 := Fqw.other W47 (Or.inr (slot_ne (Or.inl (hw _ (List.mem_of_getElem? (i := 81) rfl))) (Or.inl (hw _ (List.mem_of_getElem? (i := 19) rfl))) (by decide) (t := .long) (t' := .int) (by decide) (by decide)))
  have F47_8 := Ffw.other W47 (Or.inr (slot_ne (Or.inl (hw _ (List.mem_of_getElem? (i := 60) rfl))) (Or.inl (hw _ (List.mem_of_getElem? (i := 19) rfl))) (by decide) (t := .long) (t' := .int) (by decide) (by decide)))
  have F47_9 := Ftw.other W47 (Or.inr (slot_ne (Or.inl (hw _ (List.mem_of_getElem? (i := 62) rfl))) (Or.inl (hw _ (List.mem_of_getElem? (i := 19) rfl))) (by decide) (t := .long) (t' := .int) (by decide) (by decide)))
  have A47_q := Aw.other W47 (Ne.symm nqw)
  have A47_a41 := Bw.other W47 (Ne.symm (Nat.ne_of_lt lq41_o))
  have N47 := Fr.snoc X47 Nw gow
  refine ow_aloadN C X47 d7_85 rfl rfl (pc' := 86) rfl ?_
  refine ow_aloadN C X47 d7_86 rfl rfl (pc' := 87) rfl ?_
  refine ow_putF C X47 e47 (hw _ (List.mem_of_getElem? (i := 16) rfl)) F47_1 E47_0 (Or.inl (hw _ (List.mem_of_getElem? (i := 17) rfl))) (hw _ (List.mem_of_getElem? (i := 7) rfl)) (ty := (.array .long)) (by decide) rfl rfl d7_87 (pc' := 90) rfl (fun T48 h48 X48 e48 W48 => ?_)
  have E48_0 := E47_0.wr W48
  have F48_1 := F47_1.same W48
  have F48_2 := F47_2.other W48 (Or.inr (slot_ne (Or.inl (hw _ (List.mem_of_getElem? (i := 19) rfl))) (Or.inl (hw _ (List.mem_of_getElem? (i := 17) rfl))) (by decide) (t := .int) (t' := (.array .long)) (by decide) (by decide)))
  have F48_3 := F47_3.other W48 (Or.inr (slot_ne (Or.inr (hw _ (List.mem_of_getElem? (i := 29) rfl))) (Or.inl (hw _ (List.mem_of_getElem? (i := 17) rfl))) (by decide) (t := .long) (t' := (.array .long)) (by decide) (by decide)))
  have F48_4 := F47_4.other W48 (Or.inr (slot_ne (Or.inr (hw _ (List.mem_of_getElem? (i := 31) rfl))) (Or.inl (hw _ (List.mem_of_getElem? (i := 17) rfl))) (by decide) (t := .int) (t' := (.array .long)) (by decide) (by decide)))
  have F48_5 := F47_5.other W48 (Or.inr (slot_ne (Or.inl (hw _ (List.mem_of_getElem? (i := 38) rfl))) (Or.inl (hw _ (List.mem_of_getElem? (i := 17) rfl))) (by decide) (t := .int) (t' := (.array .long)) (by decide) (by decide)))
  have F48_6 := F47_6.other W48 (Or.inr (slot_ne (Or.inl (hw _ (List.mem_of_getElem? (i := 55) rfl))) (Or.inl (hw _ (List.mem_of_getElem? (i := 17) rfl))) (by decide) (t := .int) (t' := (.array .long)) (by decide) (by decide)))
  have F48_7 := F47_7.other W48 (Or.inr (slot_ne (Or.inl (hw _ (List.mem_of_getElem? (i := 81) rfl))) (Or.inl (hw _ (List.mem_of_getElem? (i := 17) rfl))) (by decide) (t := .long) (t' := (.array .long)) (by decide) (by decide)))
  have F48_8 := F47_8.other W48 (Or.inr (slot_ne (Or.inl (hw _ (List.mem_of_getElem? (i := 60) rfl))) (Or.inl (hw _ (List.mem_of_getElem? (i := 17) rfl))) (by decide) (t := .long) (t' := (.array .long)) (by decide) (by decide)))
  have F48_9 := F47_9.other W48 (Or.inr (slot_ne (Or.inl (hw _ (List.mem_of_getElem? (i := 62) rfl))) (Or.inl (hw _ (List.mem_of_getElem? (i := 17) rfl))) (by decide) (t := .long) (t' := (.array .long)) (by decide) (by decide)))
  have A48_q := A47_q.other W48 (Ne.symm nqw)
  have A48_a41 := A47_a41.other W48 (Ne.symm (Nat.ne_of_lt lq41_o))
  have N48 := Fr.snoc X48 N47 gow
  refine ow_aloadN C X48 d7_90 rfl rfl (pc' := 91) rfl ?_
  refine ow_iconst (0 : Int32) C X48 d7_91 (by decide) (pc' := 92) rfl ?_
  refine ow_putF C X48 e48 (hw _ (List.mem_of_getElem? (i := 54) rfl)) F48_6 E48_0 (Or.inl (hw _ (List.mem_of_getElem? (i := 55) rfl))) (hw _ (List.mem_of_getElem? (i := 7) rfl)) (ty := .int) (by decide) rfl rfl d7_92 (pc' := 95) rfl (fun T49 h49 X49 e49 W49 => ?_)
  have E49_0 := E48_0.wr W49
  have F49_1 := F48_1.other W49 (Or.inr (slot_ne (Or.inl (hw _ (List.mem_of_getElem? (i := 17) rfl))) (Or.inl (hw _ (List.mem_of_getElem? (i := 55) rfl))) (by decide) (t := (.array .long)) (t' := .int) (by decide) (by decide)))
  have F49_2 := F48_2.other W49 (Or.inr (slot_ne (Or.inl (hw _ (List.mem_of_getElem? (i := 19) rfl))) (Or.inl (hw _ (List.mem_of_getElem? (i := 55) rfl))) (by decide) (t := .int) (t' := .int) (by decide) (by decide)))
  have F49_3 := F48_3.other W49 (Or.inr (slot_ne (Or.inr (hw _ (List.mem_of_getElem? (i := 29) rfl))) (Or.inl (hw _ (List.mem_of_getElem? (i := 55) rfl))) (by decide) (t := .long) (t' := .int) (by decide) (by decide)))
  have F49_4 := F48_4.other W49 (Or.inr (slot_ne (Or.inr (hw _ (List.mem_of_getElem? (i := 31) rfl))) (Or.inl (hw _ (List.mem_of_getElem? (i := 55) rfl))) (by decide) (t := .int) (t' := .int) (by decide) (by decide)))
  have F49_5 := F48_5.other W49 (Or.inr (slot_ne (Or.inl (hw _ (List.mem_of_getElem? (i := 38) rfl))) (Or.inl (hw _ (List.mem_of_getElem? (i := 55) rfl))) (by decide) (t := .int) (t' := .int) (by decide) (by decide)))
  have F49_6 := F48_6.same W49
  have F49_7 := F48_7.other W49 (Or.inr (slot_ne (Or.inl (hw _ (List.mem_of_getElem? (i := 81) rfl))) (Or.inl (hw _ (List.mem_of_getElem? (i := 55) rfl))) (by decide) (t := .long) (t' := .int) (by decide) (by decide)))
  have F49_8 := F48_8.other W49 (Or.inr (slot_ne (Or.inl (hw _ (List.mem_of_getElem? (i := 60) rfl))) (Or.inl (hw _ (List.mem_of_getElem? (i := 55) rfl))) (by decide) (t := .long) (t' := .int) (by decide) (by decide)))
  have F49_9 := F48_9.other W49 (Or.inr (slot_ne (Or.inl (hw _ (List.mem_of_getElem? (i := 62) rfl))) (Or.inl (hw _ (List.mem_of_getElem? (i := 55) rfl))) (by decide) (t := .long) (t' := .int) (by decide) (by decide)))
  have A49_q := A48_q.other W49 (Ne.symm nqw)
  have A49_a41 := A48_a41.other W49 (Ne.symm (Nat.ne_of_lt lq41_o))
  have N49 := Fr.snoc X49 N48 gow
  refine ow_retV C X49 d7_95 (Nat.le_of_ble_eq_true rfl) (Nat.le_of_eq (Nat.zero_add _)) ?_
  rw [e49]
  exact ⟨rfl, N49, a41, ⟨E49_0, F49_1, F49_2, F49_3, F49_4, F49_5, F49_6, F49_7, F49_8, F49_9, A49_a41, gow, Ge41, (Nat.ne_of_lt lq41_o)⟩⟩
/-- the partial slot's place as the program keeps it and as a number -/
def own_pp (pp : Int32) (p : Int) (u : Nat) : Prop := (pp = -1 ∧ p = -1) ∨ ∃ k : Nat, pp = Int32.ofNat k ∧ p = (k : Int) ∧ k + 2 ≤ u
/-- the time of slot j -/
def own_T (u : Nat) (f : Nat → Int64) (nt : Int64) (j : Nat) : Int64 := if j + 1 = u then nt else f j
/-- how many cells and slots the rings have taken so far -/
def OwU (n ms tc ts : Nat) : Prop := (n = 0 ∧ tc = 0 ∧ ts = 0) ∨ (n < ms ∧ 2 ^ (tc + 1) ≤ n ∧ ts ≤ 2 * n) ∨ (n = ms ∧ tc ≤ 8 ∧ ts ≤ 3 * ms)
theorem OwU.pow {tc n : Nat} (h : 2 ^ (tc + 1) ≤ n) (hn : n ≤ 301) : tc ≤ 7 := by
  rcases Nat.lt_or_ge tc 8 with w | w
  · omega
  · have := Nat.pow_le_pow_right (show 0 < 2 by decide) (show 9 ≤ tc + 1 by omega)
    have e : 2 ^ 9 = 512 := by decide
    omega
theorem OwU.bd {n ms tc ts : Nat} (H : OwU n ms tc ts) (hm : ms ≤ 301) : tc ≤ 8 ∧ ts ≤ 903 := by
  rcases H with ⟨-, h1, h2⟩ | ⟨h0, h1, h2⟩ | ⟨h0, h1, h2⟩
  · omega
  · have := OwU.pow h1 (by omega); omega
  · omega
theorem OwU.step {n ms a b c d : Nat} (H : OwU n ms (a + b) (c + d)) (hm2 : 2 ≤ ms) (hm : ms ≤ 301) (h : n < ms) : OwU (own_nn n ms) ms (a + (b + 1)) (c + (d + own_nn n ms)) := by
  rcases H with ⟨rfl, h1, h2⟩ | ⟨h0, h1, h2⟩ | ⟨h0, h1, h2⟩
  · have e : own_nn 0 ms = min 4 ms := rfl
    rw [e]
    by_cases w : 4 < ms
    · refine Or.inr (Or.inl ⟨by omega, ?_, by omega⟩)
      rw [show a + (b + 1) = 1 by omega, show min 4 ms = 4 by omega]; decide
    · exact Or.inr (Or.inr ⟨by omega, by omega, by omega⟩)
  · have hp := OwU.pow h1 (by omega)
    have h4 : 2 ≤ n := by
      have : 2 ^ 1 ≤ 2 ^ (a + b + 1) := Nat.pow_le_pow_right (by decide) (by omega)
      omega
    have e : own_nn n ms = min (2 * n) ms := by unfold own_nn; omega
    rw [e]
    by_cases w : 2 * n < ms
    · refine Or.inr (Or.inl ⟨by omega, ?_, by omega⟩)
      rw [show a + (b + 1) + 1 = (a + b + 1) + 1 by omega, Nat.pow_succ]; omega
    · exact Or.inr (Or.inr ⟨by omega, by omega, by omega⟩)
  · omega
theorem own_minI (a b : Int64) : (own_minJ a b).toInt = if b.toInt < a.toInt then b.toInt else a.toInt := by
  unfold own_minJ
  by_cases w : b < a
  · rw [if_pos w, if_pos (Int64.lt_iff_toInt_lt.mp w)]
  · rw [if_neg w, if_neg (fun q => w (Int64.lt_iff_toInt_lt.mpr q))]
theorem own_fillI {per nf rem : Int64} (h1 : 0 < rem.toInt) (h2 : 0 ≤ nf.toInt) (h3 : nf.toInt < per.toInt) :
    (nf + own_minJ rem (per - nf)).toInt = nf.toInt + (rem.toInt - (rem - own_minJ rem (per - nf)).toInt) ∧ (rem - own_minJ rem (per - nf)).toInt < rem.toInt ∧ 0 ≤ (rem - own_minJ rem (per - nf)).toInt ∧ (nf + own_minJ rem (per - nf)).toInt ≤ per.toInt := by
  have hb := Int64.toInt_lt per
  have hr := Int64.toInt_lt rem
  have e : (per - nf).toInt = per.toInt - nf.toInt := by rw [Int64.toInt_sub, own_bmL (by omega)]
  have em := own_minI rem (per - nf)
  rw [e] at em
  generalize own_minJ rem (per - nf) = mm at *
  have m1 : 0 < mm.toInt ∧ mm.toInt ≤ rem.toInt ∧ mm.toInt ≤ per.toInt - nf.toInt := by rw [em]; split <;> omega
  have e2 : (nf + mm).toInt = nf.toInt + mm.toInt := by rw [Int64.toInt_add, own_bmL (by omega)]
  have e3 : (rem - mm).toInt = rem.toInt - mm.toInt := by rw [Int64.toInt_sub, own_bmL (by omega)]
  rw [e2, e3]; omega
theorem own_newI {per rem : Int64} (h1 : 0 < rem.toInt) (h2 : 1 ≤ per.toInt) :
    (own_minJ rem per).toInt = rem.toInt - (rem - own_minJ rem per).toInt ∧ (rem - own_minJ rem per).toInt < rem.toInt ∧ 0 ≤ (rem - own_minJ rem per).toInt ∧ (own_minJ rem per).toInt ≤ per.toInt := by
  have hr := Int64.toInt_lt rem
  have em := own_minI rem per
  generalize own_minJ rem per = mm at *
  have m1 : 0 < mm.toInt ∧ mm.toInt ≤ rem.toInt ∧ mm.toInt ≤ per.toInt := by rw [em]; split <;> omega
  have e3 : (rem - mm).toInt = rem.toInt - mm.toInt := by rw [Int64.toInt_sub, own_bmL (by omega)]
  rw [e3]; omega
theorem own_Tnew {v : Nat} {f : Nat → Int64} {nt t : Int64} {j : Nat} (hj : j < v + 1) : own_T (v + 1 + 1) (fun j => if j = v then nt else f j) t j = own_T (v + 1) f nt j := by
  unfold own_T
  rw [if_neg (by omega)]
  by_cases w : j = v
  · dsimp only; rw [if_pos w, if_pos (by omega)]
  · dsimp only; rw [if_neg w, if_neg (by omega)]
theorem own_Tnewg {v n : Nat} {f : Nat → Int64} {nt t : Int64} {j : Nat} (hn : v < n) (hj : j < v + 1) : own_T (v + 1 + 1) (fun j => if j < n then (if j = v then nt else f j) else 0) t j = own_T (v + 1) f nt j := by
  unfold own_T
  rw [if_neg (by omega)]
  dsimp only
  rw [if_pos (show j < n by omega)]
  by_cases w : j = v
  · rw [if_pos w, if_pos (by omega)]
  · rw [if_neg w, if_neg (by omega)]
theorem own_Ttop (u : Nat) (f : Nat → Int64) (t : Int64) : own_T (u + 1) f t u = t := if_pos rfl
theorem own_Tfill {v : Nat} {f : Nat → Int64} {nt t : Int64} {j : Nat} (hj : j + 1 < v + 1) : own_T (v + 1) f t j = own_T (v + 1) f nt j := by
  unfold own_T; rw [if_neg (by omega), if_neg (by omega)]
/-- the state of an adding, without the heap -/
def OwJ (per : Int64) (ms : Nat) (Lim : Int) (N rem t : Int64) (u0 : Nat) (T0 : Nat → Int64) (G0 : Nat → Int) (n : Nat) (f : Nat → Int64) (u : Nat) (nt nf : Int64) (pp : Int32) (pf : Int64) (tc ts : Nat) : Prop :=
  OwU n ms tc ts ∧ ∃ p, own_pp pp p u ∧ OwLp per.toInt n ms u nf.toInt pf.toInt p (own_T u f nt) Lim N.toInt rem.toInt t u0 T0 G0
theorem own_posI {x : Int64} (h : (0 : Int64) < x) : 0 < x.toInt := Int64.lt_iff_toInt_lt.mp h
theorem own_ltI {x y : Int64} : x < y ↔ x.toInt < y.toInt := Int64.lt_iff_toInt_lt
theorem OwJ.fill {per : Int64} {ms : Nat} {Lim : Int} {N rem t : Int64} {u0 : Nat} {T0 : Nat → Int64} {G0 : Nat → Int} {n : Nat} {f : Nat → Int64} {v : Nat} {nt nf : Int64} {pp : Int32} {pf : Int64} {tc ts : Nat} (H : OwJ per ms Lim N rem t u0 T0 G0 n f (v + 1) nt nf pp pf tc ts) (hP : 1 ≤ per.toInt) (hr : (0 : Int64) < rem) (hf : nf < per) :
    OwJ per ms Lim N (rem - own_minJ rem (per - nf)) t u0 T0 G0 n f (v + 1) t (nf + own_minJ rem (per - nf)) pp pf tc ts := by
  obtain ⟨U, p, hp, L⟩ := H
  have hv := L.1.2.2.1 (Nat.succ_pos v)
  obtain ⟨e1, e2, e3, e4⟩ := own_fillI (per := per) (nf := nf) (own_posI hr) (by omega) (own_ltI.mp hf)
  exact ⟨U, p, hp, L.fill hP (Nat.succ_pos v) (own_ltI.mp hf) (own_posI hr) e1 e2 e3 e4 (fun j hj => own_Tfill hj) (own_Ttop v f t)⟩
/-- first slot -/
theorem OwJ.first {per : Int64} {ms : Nat} {Lim : Int} {N rem t : Int64} {u0 : Nat} {T0 : Nat → Int64} {G0 : Nat → Int} {n n' : Nat} {f f' : Nat → Int64} {nt nf : Int64} {pp : Int32} {pf : Int64} {tc ts tc' ts' : Nat} (H : OwJ per ms Lim N rem t u0 T0 G0 n f 0 nt nf pp pf tc ts) (hP : 1 ≤ per.toInt) (hr : (0 : Int64) < rem) (hn : 1 ≤ n') (hn2 : n' ≤ ms) (U' : OwU n' ms tc' ts') :
    OwJ per ms Lim N (rem - own_minJ rem per) t u0 T0 G0 n' f' (0 + 1) t (own_minJ rem per) pp pf tc' ts' := by
  obtain ⟨U, p, hp, L⟩ := H
  obtain ⟨e1, e2, e3, e4⟩ := own_newI (own_posI hr) hP
  refine ⟨U', p, ?_, L.new hP (Or.inl ⟨rfl, rfl, rfl⟩) hn hn2 (own_posI hr) e1 e2 e3 e4 (fun j hj => absurd hj (Nat.not_lt_zero j)) (own_Ttop 0 f' t)⟩
  rcases hp with q | ⟨k, q1, q2, q3⟩
  · exact Or.inl q
  · omega
/-- a new slot behind a full one -/
theorem OwJ.full {per : Int64} {ms : Nat} {Lim : Int} {N rem t : Int64} {u0 : Nat} {T0 : Nat → Int64} {G0 : Nat → Int} {n n' : Nat} {f f' : Nat → Int64} {v : Nat} {nt nf : Int64} {pp : Int32} {pf : Int64} {tc ts tc' ts' : Nat} (H : OwJ per ms Lim N rem t u0 T0 G0 n f (v + 1) nt nf pp pf tc ts) (hP : 1 ≤ per.toInt) (hr : (0 : Int64) < rem) (hf : ¬ nf < per) (hn : v + 1 + 1 ≤ n') (hn2 : n' ≤ ms) (U' : OwU n' ms tc' ts') (hT : ∀ j, j < v + 1 → own_T (v + 1 + 1) f' t j = own_T (v + 1) f nt j) :
    OwJ per ms Lim N (rem - own_minJ rem per) t u0 T0 G0 n' f' (v + 1 + 1) t (own_minJ rem per) pp pf tc' ts' := by
  obtain ⟨U, p, hp, L⟩ := H
  have hv := L.1.2.2.1 (Nat.succ_pos v)
  obtain ⟨e1, e2, e3, e4⟩ := own_newI (own_posI hr) hP
  have hf2 : ¬ nf.toInt < per.toInt := fun w => hf (own_ltI.mpr w)
  refine ⟨U', p, ?_, L.new hP (Or.inr (Or.inl ⟨Nat.succ_pos v, by omega, rfl, rfl⟩)) hn hn2 (own_posI hr) e1 e2 e3 e4 hT (own_Ttop (v + 1) f' t)⟩
  rcases hp with q | ⟨k, q1, q2, q3⟩
  · exact Or.inl q
  · exact Or.inr ⟨k, q1, q2, by omega⟩
/-- a new slot behind one that stays partial -/
theorem OwJ.part {per : Int64} {ms : Nat} {Lim : Int} {N rem t : Int64} {u0 : Nat} {T0 : Nat → Int64} {G0 : Nat → Int} {n n' : Nat} {f f' : Nat → Int64} {v : Nat} {nt nf pf : Int64} {tc ts tc' ts' : Nat} (H : OwJ per ms Lim N rem t u0 T0 G0 n f (v + 1) nt nf (-1) pf tc ts) (hv3 : v < 1000000) (hP : 1 ≤ per.toInt) (hr : (0 : Int64) < rem) (hf : nf < per) (hn : v + 1 + 1 ≤ n') (hn2 : n' ≤ ms) (U' : OwU n' ms tc' ts') (hT : ∀ j, j < v + 1 → own_T (v + 1 + 1) f' t j = own_T (v + 1) f nt j) :
    OwJ per ms Lim N (rem - own_minJ rem per) t u0 T0 G0 n' f' (v + 1 + 1) t (own_minJ rem per) (Int32.ofNat v) nf tc' ts' := by
  obtain ⟨U, p, hp, L⟩ := H
  have hv := L.1.2.2.1 (Nat.succ_pos v)
  obtain ⟨e1, e2, e3, e4⟩ := own_newI (own_posI hr) hP
  have hp1 : p = -1 := by
    rcases hp with q | ⟨k, q1, q2, q3⟩
    · exact q.2
    · exfalso
      have hL := L.1.1
      have hu := L.1.2.1
      have : k < 1000000 := by omega
      have q4 := congrArg Int32.toInt q1
      rw [own_ixI (by omega), show (-1 : Int32).toInt = -1 from by decide] at q4
      omega
  refine ⟨U', (v : Int), Or.inr ⟨v, rfl, rfl, by omega⟩, L.new hP (Or.inr (Or.inr ⟨Nat.succ_pos v, own_ltI.mp hf, hp1, by omega, rfl⟩)) hn hn2 (own_posI hr) e1 e2 e3 e4 hT (own_Ttop (v + 1) f' t)⟩
theorem OwJ.bnd {per : Int64} {ms : Nat} {Lim : Int} {N rem t : Int64} {u0 : Nat} {T0 : Nat → Int64} {G0 : Nat → Int} {n : Nat} {f : Nat → Int64} {u : Nat} {nt nf : Int64} {pp : Int32} {pf : Int64} {tc ts : Nat} (H : OwJ per ms Lim N rem t u0 T0 G0 n f u nt nf pp pf tc ts) : u ≤ n ∧ n ≤ ms := by
  obtain ⟨U, p, hp, L⟩ := H
  exact ⟨L.1.1, L.1.2.1⟩
theorem OwJ.room {per : Int64} {ms : Nat} {Lim : Int} {N rem t : Int64} {u0 : Nat} {T0 : Nat → Int64} {G0 : Nat → Int} {n : Nat} {f : Nat → Int64} {u : Nat} {nt nf : Int64} {pp : Int32} {pf : Int64} {tc ts : Nat} (H : OwJ per ms Lim N rem t u0 T0 G0 n f u nt nf pp pf tc ts) (hP : 1 ≤ per.toInt) (hm : Lim ≤ ((ms - 1 : Nat) : Int) * per.toInt) (hm2 : 2 ≤ ms) (hms : ms ≤ 301) (hr : (0 : Int64) < rem) (hc : u = 0 ∨ ¬ nf < per ∨ pp = -1) : u < ms := by
  obtain ⟨U, p, hp, L⟩ := H
  refine L.room hP hm hm2 (own_posI hr) ?_
  rcases hc with q | q | q
  · exact Or.inl q
  · rcases Nat.eq_zero_or_pos u with w | w
    · exact Or.inl w
    · have := L.1.2.2.1 w
      have hf2 : ¬ nf.toInt < per.toInt := fun w => q (own_ltI.mpr w)
      exact Or.inr (Or.inl (by omega))
  · rcases hp with w | ⟨k, q1, q2, q3⟩
    · exact Or.inr (Or.inr w.2)
    · exfalso
      have hL := L.1.1
      have hu := L.1.2.1
      rw [q] at q1
      have q4 := congrArg Int32.toInt q1
      rw [own_ixI (by omega), show (-1 : Int32).toInt = -1 from by decide] at q4
      omega

theorem d6_0 : decode prog_1_method_6_code 0 = .ok (.lload_n 3, 1) := by decide +kernel
theorem d6_1 : decode prog_1_method_6_code 1 = .ok (.lstore 5, 2) := by decide +kernel
theorem d6_3 : decode prog_1_method_6_code 3 = .ok (.lload 5, 2) := by decide +kernel
theorem d6_5 : decode prog_1_method_6_code 5 = .ok (.lconst 0, 1) := by decide +kernel
theorem d6_6 : decode prog_1_method_6_code 6 = .ok (.lcmp, 1) := by decide +kernel
theorem d6_7 : decode prog_1_method_6_code 7 = .ok (.ifCond .le 186, 3) := by decide +kernel
theorem d6_10 : decode prog_1_method_6_code 10 = .ok (.aload_n 0, 1) := by decide +kernel
theorem d6_11 : decode prog_1_method_6_code 11 = .ok (.getfield 35, 3) := by decide +kernel
theorem d6_14 : decode prog_1_method_6_code 14 = .ok (.ifCond .le 19, 3) := by decide +kernel
theorem d6_17 : decode prog_1_method_6_code 17 = .ok (.aload_n 0, 1) := by decide +kernel
theorem d6_18 : decode prog_1_method_6_code 18 = .ok (.getfield 53, 3) := by decide +kernel
theorem d6_21 : decode prog_1_method_6_code 21 = .ok (.aload_n 0, 1) := by decide +kernel
theorem d6_22 : decode prog_1_method_6_code 22 = .ok (.getfield 28, 3) := by decide +kernel
theorem d6_25 : decode prog_1_method_6_code 25 = .ok (.lcmp, 1) := by decide +kernel
theorem d6_26 : decode prog_1_method_6_code 26 = .ok (.ifCond .ge 7, 3) := by decide +kernel
theorem d6_29 : decode prog_1_method_6_code 29 = .ok (.iconst 1, 1) := by decide +kernel
theorem d6_30 : decode prog_1_method_6_code 30 = .ok (.goto 4, 3) := by decide +kernel
theorem d6_33 : decode prog_1_method_6_code 33 = .ok (.iconst 0, 1) := by decide +kernel
theorem d6_34 : decode prog_1_method_6_code 34 = .ok (.istore 7, 2) := by decide +kernel
theorem d6_36 : decode prog_1_method_6_code 36 = .ok (.iload 7, 2) := by decide +kernel
theorem d6_38 : decode prog_1_method_6_code 38 = .ok (.ifCond .eq 42, 3) := by decide +kernel
theorem d6_41 : decode prog_1_method_6_code 41 = .ok (.aload_n 0, 1) := by decide +kernel
theorem d6_42 : decode prog_1_method_6_code 42 = .ok (.getfield 13, 3) := by decide +kernel
theorem d6_45 : decode prog_1_method_6_code 45 = .ok (.ifCond .ge 35, 3) := by decide +kernel
theorem d6_48 : decode prog_1_method_6_code 48 = .ok (.lload_n 1, 1) := by decide +kernel
theorem d6_49 : decode prog_1_method_6_code 49 = .ok (.aload_n 0, 1) := by decide +kernel
theorem d6_50 : decode prog_1_method_6_code 50 = .ok (.getfield 67, 3) := by decide +kernel
theorem d6_53 : decode prog_1_method_6_code 53 = .ok (.lsub, 1) := by decide +kernel
theorem d6_54 : decode prog_1_method_6_code 54 = .ok (.ldc2_w 70, 3) := by decide +kernel
theorem d6_57 : decode prog_1_method_6_code 57 = .ok (.lcmp, 1) := by decide +kernel
theorem d6_58 : decode prog_1_method_6_code 58 = .ok (.ifCond .le 22, 3) := by decide +kernel
theorem d6_61 : decode prog_1_method_6_code 61 = .ok (.aload_n 0, 1) := by decide +kernel
theorem d6_62 : decode prog_1_method_6_code 62 = .ok (.aload_n 0, 1) := by decide +kernel
theorem d6_63 : decode prog_1_method_6_code 63 = .ok (.invokevirtual 72, 3) := by decide +kernel
theorem d6_66 : decode prog_1_method_6_code 66 = .ok (.putfield 13, 3) := by decide +kernel
theorem d6_69 : decode prog_1_method_6_code 69 = .ok (.aload_n 0, 1) := by decide +kernel
theorem d6_70 : decode prog_1_method_6_code 70 = .ok (.aload_n 0, 1) := by decide +kernel
theorem d6_71 : decode prog_1_method_6_code 71 = .ok (.getfield 53, 3) := by decide +kernel
theorem d6_74 : decode prog_1_method_6_code 74 = .ok (.putfield 50, 3) := by decide +kernel
theorem d6_77 : decode prog_1_method_6_code 77 = .ok (.iconst 0, 1) := by decide +kernel
theorem d6_78 : decode prog_1_method_6_code 78 = .ok (.istore 7, 2) := by decide +kernel
theorem d6_80 : decode prog_1_method_6_code 80 = .ok (.iload 7, 2) := by decide +kernel
theorem d6_82 : decode prog_1_method_6_code 82 = .ok (.ifCond .eq 33, 3) := by decide +kernel
theorem d6_85 : decode prog_1_method_6_code 85 = .ok (.lload 5, 2) := by decide +kernel
theorem d6_87 : decode prog_1_method_6_code 87 = .ok (.aload_n 0, 1) := by decide +kernel
theorem d6_88 : decode prog_1_method_6_code 88 = .ok (.getfield 28, 3) := by decide +kernel
theorem d6_91 : decode prog_1_method_6_code 91 = .ok (.aload_n 0, 1) := by decide +kernel
theorem d6_92 : decode prog_1_method_6_code 92 = .ok (.getfield 53, 3) := by decide +kernel
theorem d6_95 : decode prog_1_method_6_code 95 = .ok (.lsub, 1) := by decide +kernel
theorem d6_96 : decode prog_1_method_6_code 96 = .ok (.invokestatic 76, 3) := by decide +kernel
theorem d6_99 : decode prog_1_method_6_code 99 = .ok (.lstore 8, 2) := by decide +kernel
theorem d6_101 : decode prog_1_method_6_code 101 = .ok (.aload_n 0, 1) := by decide +kernel
theorem d6_102 : decode prog_1_method_6_code 102 = .ok (.dup, 1) := by decide +kernel
theorem d6_103 : decode prog_1_method_6_code 103 = .ok (.getfield 53, 3) := by decide +kernel
theorem d6_106 : decode prog_1_method_6_code 106 = .ok (.lload 8, 2) := by decide +kernel
theorem d6_108 : decode prog_1_method_6_code 108 = .ok (.ladd, 1) := by decide +kernel
theorem d6_109 : decode prog_1_method_6_code 109 = .ok (.putfield 53, 3) := by decide +kernel
theorem d6_112 : decode prog_1_method_6_code 112 = .ok (.goto 66, 3) := by decide +kernel
theorem d6_115 : decode prog_1_method_6_code 115 = .ok (.aload_n 0, 1) := by decide +kernel
theorem d6_116 : decode prog_1_method_6_code 116 = .ok (.getfield 35, 3) := by decide +kernel
theorem d6_119 : decode prog_1_method_6_code 119 = .ok (.ifCond .le 16, 3) := by decide +kernel
theorem d6_122 : decode prog_1_method_6_code 122 = .ok (.aload_n 0, 1) := by decide +kernel
theorem d6_123 : decode prog_1_method_6_code 123 = .ok (.getfield 9, 3) := by decide +kernel
theorem d6_126 : decode prog_1_method_6_code 126 = .ok (.aload_n 0, 1) := by decide +kernel
theorem d6_127 : decode prog_1_method_6_code 127 = .ok (.invokevirtual 72, 3) := by decide +kernel
theorem d6_130 : decode prog_1_method_6_code 130 = .ok (.aload_n 0, 1) := by decide +kernel
theorem d6_131 : decode prog_1_method_6_code 131 = .ok (.getfield 67, 3) := by decide +kernel
theorem d6_134 : decode prog_1_method_6_code 134 = .ok (.lastore, 1) := by decide +kernel
theorem d6_135 : decode prog_1_method_6_code 135 = .ok (.aload_n 0, 1) := by decide +kernel
theorem d6_136 : decode prog_1_method_6_code 136 = .ok (.getfield 35, 3) := by decide +kernel
theorem d6_139 : decode prog_1_method_6_code 139 = .ok (.aload_n 0, 1) := by decide +kernel
theorem d6_140 : decode prog_1_method_6_code 140 = .ok (.getfield 9, 3) := by decide +kernel
theorem d6_143 : decode prog_1_method_6_code 143 = .ok (.arraylength, 1) := by decide +kernel
theorem d6_144 : decode prog_1_method_6_code 144 = .ok (.if_icmp .ne 7, 3) := by decide +kernel
theorem d6_147 : decode prog_1_method_6_code 147 = .ok (.aload_n 0, 1) := by decide +kernel
theorem d6_148 : decode prog_1_method_6_code 148 = .ok (.invokevirtual 79, 3) := by decide +kernel
theorem d6_151 : decode prog_1_method_6_code 151 = .ok (.aload_n 0, 1) := by decide +kernel
theorem d6_152 : decode prog_1_method_6_code 152 = .ok (.dup, 1) := by decide +kernel
theorem d6_153 : decode prog_1_method_6_code 153 = .ok (.getfield 35, 3) := by decide +kernel
theorem d6_156 : decode prog_1_method_6_code 156 = .ok (.iconst 1, 1) := by decide +kernel
theorem d6_157 : decode prog_1_method_6_code 157 = .ok (.iadd, 1) := by decide +kernel
theorem d6_158 : decode prog_1_method_6_code 158 = .ok (.putfield 35, 3) := by decide +kernel
theorem d6_161 : decode prog_1_method_6_code 161 = .ok (.lload 5, 2) := by decide +kernel
theorem d6_163 : decode prog_1_method_6_code 163 = .ok (.aload_n 0, 1) := by decide +kernel
theorem d6_164 : decode prog_1_method_6_code 164 = .ok (.getfield 28, 3) := by decide +kernel
theorem d6_167 : decode prog_1_method_6_code 167 = .ok (.invokestatic 76, 3) := by decide +kernel
theorem d6_170 : decode prog_1_method_6_code 170 = .ok (.lstore 8, 2) := by decide +kernel
theorem d6_172 : decode prog_1_method_6_code 172 = .ok (.aload_n 0, 1) := by decide +kernel
theorem d6_173 : decode prog_1_method_6_code 173 = .ok (.lload 8, 2) := by decide +kernel
theorem d6_175 : decode prog_1_method_6_code 175 = .ok (.putfield 53, 3) := by decide +kernel
theorem d6_178 : decode prog_1_method_6_code 178 = .ok (.aload_n 0, 1) := by decide +kernel
theorem d6_179 : decode prog_1_method_6_code 179 = .ok (.lload_n 1, 1) := by decide +kernel
theorem d6_180 : decode prog_1_method_6_code 180 = .ok (.putfield 67, 3) := by decide +kernel
theorem d6_183 : decode prog_1_method_6_code 183 = .ok (.lload 5, 2) := by decide +kernel
theorem d6_185 : decode prog_1_method_6_code 185 = .ok (.lload 8, 2) := by decide +kernel
theorem d6_187 : decode prog_1_method_6_code 187 = .ok (.lsub, 1) := by decide +kernel
theorem d6_188 : decode prog_1_method_6_code 188 = .ok (.lstore 5, 2) := by decide +kernel
theorem d6_190 : decode prog_1_method_6_code 190 = .ok (.goto (-187), 3) := by decide +kernel
theorem d6_193 : decode prog_1_method_6_code 193 = .ok (.return_, 1) := by decide +kernel
theorem pn_6 : plainFor (⟨"com/example/calm_valve/calmvalve/AdmissionWindow", "add", "(JJ)V"⟩ : MethodName) = true := by first | exact plainFor_of_name (by first | (simp [plainName, overriddenIn]; done) | decide +kernel) | decide +kernel
theorem pd_6 : parseMethodDescriptor "(JJ)V" = some ⟨[.long, .long], none⟩ := by decide +kernel
set_option maxRecDepth 65536 in
set_option maxHeartbeats 40000000 in
theorem lp_add {p : Program} {e : Env} {s : State} {m : MethodId} {args : Array Value} {below : List Frame} {meth : Method} {c : Code} {D : State → Outcome → Prop} (l : Launch) (Z : State) (a0 : Array Value) (hw : ∀ d ∈ tables_1, d.before a0 Z = true) (o : Addr) (t N per : Int64) (ms : Nat) (n0 : Nat) (Lim : Int) (u0 : Nat) (T0 : Nat → Int64) (G0 : Nat → Int) (tc0 ts0 : Nat) (hP : 1 ≤ per.toInt) (hLim : Lim ≤ ((ms - 1 : Nat) : Int) * per.toInt) (hm2 : 2 ≤ ms) (hms : ms ≤ 301) (C : OwC p Z s m meth c "com/example/calm_valve/calmvalve/AdmissionWindow" "add" prog_1_method_6_code 10 none)
    (kN : ∀ rem q n f u nt nf pp pf cc ss T h locs x7 x8 x9, ¬ (0 : Int64) < rem → OwR Z h n0 o q n f 0 u nt nf pp pf per ms → OwJ per ms Lim N rem t u0 T0 G0 n f u nt nf pp pf (tc0 + cc) (ts0 + ss) → Fr n0 locs → Stand p l e ({ frames := 3, cells := 8, slots := (903 - ts0), locals := 80 } : Room) s m args below meth c T locs cc ss → T.heap = h → OwF p e below D T (mkF m 193 #[.val (.ref o), .val (.long t), .second, .val (.long N), .second, .val (.long rem), .second, x7, x8, x9] [])) :
    ∀ (fuel : Nat) rem q n f u nt nf pp pf cc ss T h locs x7 x8 x9, rem.toInt.toNat < fuel → Jvm.RoadKit.One x7 → OwTwo x8 x9 → OwR Z h n0 o q n f 0 u nt nf pp pf per ms → OwJ per ms Lim N rem t u0 T0 G0 n f u nt nf pp pf (tc0 + cc) (ts0 + ss) → Fr n0 locs → Stand p l e ({ frames := 3, cells := 8, slots := (903 - ts0), locals := 80 } : Room) s m args below meth c T locs cc ss → T.heap = h → OwF p e below D T (mkF m 3 #[.val (.ref o), .val (.long t), .second, .val (.long N), .second, .val (.long rem), .second, x7, x8, x9] []) := by
  intro fuel
  induction fuel with
  | zero => intro rem q n f u nt nf pp pf cc ss Tz hz locs x7 x8 x9 hfu o7 o8 R J Nz Xz ez; exact absurd hfu (Nat.not_lt_zero _)
  | succ fuel ih =>
    intro rem q n f u nt nf pp pf cc ss Tz hz locs x7 x8 x9 hfu o7 o8 R J Nz Xz ez
    have hb := J.bnd
    have hU := J.1.bd hms
    have hn : n < 1000000 := by omega
    have hc0 : cc + 0 ≤ 8 := by omega
    have hs0 : ss + 0 ≤ 903 - ts0 := by omega
    have Rk := R
    obtain ⟨U, pz, hp, L⟩ := (id J)
    rcases Nat.eq_zero_or_pos u with hu | hu
    · subst hu
      obtain rfl : pp = -1 := by
        rcases hp with w | ⟨k, w1, w2, w3⟩
        · exact w.1
        · omega
      obtain ⟨E, Fs, Fp, Fe, Fm, Fu, Fo, Fq, Ff, Ft, A, go, gq, nq⟩ := R
      refine ow_lload C Xz d6_3 rfl (pc' := 5) rfl ?_
      refine ow_lconst (0 : Int64) C Xz d6_5 (by decide) (pc' := 6) rfl ?_
      refine ow_lcmp C Xz d6_6 (pc' := 7) rfl ?_
      refine ow_lif_le C Xz d6_7 (pcT := 193) (pc' := 10) (by decide) (by decide) rfl (fun b7 => ?_) (fun b7 => ?_)
      · exact kN rem q n f 0 nt nf (-1 : Int32) pf cc ss Tz _ _ _ _ _ b7 Rk J Nz Xz ez
      · refine ow_aloadN C Xz d6_10 rfl rfl (pc' := 11) rfl ?_
        refine ow_getF C Xz ez (hw _ (List.mem_of_getElem? (i := 37) rfl)) Fu d6_11 (pc' := 14) rfl (fun T50 X50 e50 => ?_)
        refine ow_if_le C X50 d6_14 (pcT := 33) (pc' := 17) (by decide) (by decide) rfl (fun _ => ?_) (fun bq => absurd bq (by decide))
        refine ow_iconst (0 : Int32) C X50 d6_33 (by decide) (pc' := 34) rfl ?_
        refine ow_istore C X50 d6_34 (Ls' := #[.val (.ref o), .val (.long t), .second, .val (.long N), .second, .val (.long rem), .second, .val (.int (0 : Int32)), x8, x9]) (XS.store1 rfl o7 rfl) (pc' := 36) rfl ?_
        refine ow_iload C X50 d6_36 rfl (pc' := 38) rfl ?_
        refine ow_if_eq C X50 d6_38 (pcT := 80) (pc' := 41) (by decide) (by decide) rfl (fun _ => ?_) (fun bq => absurd (by decide) bq)
        refine ow_iload C X50 d6_80 rfl (pc' := 82) rfl ?_
        refine ow_if_eq C X50 d6_82 (pcT := 115) (pc' := 85) (by decide) (by decide) rfl (fun _ => ?_) (fun bq => absurd (by decide) bq)
        refine ow_aloadN C X50 d6_115 rfl rfl (pc' := 116) rfl ?_
        refine ow_getF C X50 e50 (hw _ (List.mem_of_getElem? (i := 37) rfl)) Fu d6_116 (pc' := 119) rfl (fun T51 X51 e51 => ?_)
        refine ow_if_le C X51 d6_119 (pcT := 135) (pc' := 122) (by decide) (by decide) rfl (fun _ => ?_) (fun bq => absurd bq (by decide))
        refine ow_aloadN C X51 d6_135 rfl rfl (pc' := 136) rfl ?_
        refine ow_getF C X51 e51 (hw _ (List.mem_of_getElem? (i := 37) rfl)) Fu d6_136 (pc' := 139) rfl (fun T52 X52 e52 => ?_)
        refine ow_aloadN C X52 d6_139 rfl rfl (pc' := 140) rfl ?_
        refine ow_getF C X52 e52 (hw _ (List.mem_of_getElem? (i := 16) rfl)) Fs d6_140 (pc' := 143) rfl (fun T53 X53 e53 => ?_)
        refine ow_arraylength C X53 e53 A (z := (Int32.ofNat n)) rfl d6_143 (pc' := 144) rfl ?_
        refine ow_icmp_ne C X53 d6_144 (pcT := 151) (pc' := 147) (by decide) (by decide) rfl (fun b144 => ?_) (fun b144 => ?_)
        · refine ow_aloadN C X53 d6_151 rfl rfl (pc' := 152) rfl ?_
          refine ow_dup C X53 d6_152 rfl (pc' := 153) rfl ?_
          refine ow_getF C X53 e53 (hw _ (List.mem_of_getElem? (i := 37) rfl)) Fu d6_153 (pc' := 156) rfl (fun T61 X61 e61 => ?_)
          refine ow_iconst (1 : Int32) C X61 d6_156 (by decide) (pc' := 157) rfl ?_
          refine ow_iadd C X61 d6_157 (pc' := 158) rfl ?_
          rw [own_inc (0)]
          refine ow_putF C X61 e61 (hw _ (List.mem_of_getElem? (i := 37) rfl)) Fu E (Or.inl (hw _ (List.mem_of_getElem? (i := 38) rfl))) (hw _ (List.mem_of_getElem? (i := 7) rfl)) (ty := .int) (by decide) rfl rfl d6_158 (pc' := 161) rfl (fun T62 h62 X62 e62 W62 => ?_)
          have E62_0 := E.wr W62
          have F62_1 := Fs.other W62 (Or.inr (slot_ne (Or.inl (hw _ (List.mem_of_getElem? (i := 17) rfl))) (Or.inl (hw _ (List.mem_of_getElem? (i := 38) rfl))) (by decide) (t := (.array .long)) (t' := .int) (by decide) (by decide)))
          have F62_2 := Fp.other W62 (Or.inr (slot_ne (Or.inl (hw _ (List.mem_of_getElem? (i := 19) rfl))) (Or.inl (hw _ (List.mem_of_getElem? (i := 38) rfl))) (by decide) (t := .int) (t' := .int) (by decide) (by decide)))
          have F62_3 := Fe.other W62 (Or.inr (slot_ne (Or.inr (hw _ (List.mem_of_getElem? (i := 29) rfl))) (Or.inl (hw _ (List.mem_of_getElem? (i := 38) rfl))) (by decide) (t := .long) (t' := .int) (by decide) (by decide)))
          have F62_4 := Fm.other W62 (Or.inr (slot_ne (Or.inr (hw _ (List.mem_of_getElem? (i := 31) rfl))) (Or.inl (hw _ (List.mem_of_getElem? (i := 38) rfl))) (by decide) (t := .int) (t' := .int) (by decide) (by decide)))
          have F62_5 := Fu.same W62
          have F62_6 := Fo.other W62 (Or.inr (slot_ne (Or.inl (hw _ (List.mem_of_getElem? (i := 55) rfl))) (Or.inl (hw _ (List.mem_of_getElem? (i := 38) rfl))) (by decide) (t := .int) (t' := .int) (by decide) (by decide)))
          have F62_7 := Fq.other W62 (Or.inr (slot_ne (Or.inl (hw _ (List.mem_of_getElem? (i := 81) rfl))) (Or.inl (hw _ (List.mem_of_getElem? (i := 38) rfl))) (by decide) (t := .long) (t' := .int) (by decide) (by decide)))
          have F62_8 := Ff.other W62 (Or.inr (slot_ne (Or.inl (hw _ (List.mem_of_getElem? (i := 60) rfl))) (Or.inl (hw _ (List.mem_of_getElem? (i := 38) rfl))) (by decide) (t := .long) (t' := .int) (by decide) (by decide)))
          have F62_9 := Ft.other W62 (Or.inr (slot_ne (Or.inl (hw _ (List.mem_of_getElem? (i := 62) rfl))) (Or.inl (hw _ (List.mem_of_getElem? (i := 38) rfl))) (by decide) (t := .long) (t' := .int) (by decide) (by decide)))
          have A62_q := A.other W62 (Ne.symm nq)
          have N62 := Fr.snoc X62 Nz go
          refine ow_lload C X62 d6_161 rfl (pc' := 163) rfl ?_
          refine ow_aloadN C X62 d6_163 rfl rfl (pc' := 164) rfl ?_
          refine ow_getF C X62 e62 (hw _ (List.mem_of_getElem? (i := 28) rfl)) F62_3 d6_164 (pc' := 167) rfl (fun T63 X63 e63 => ?_)
          refine ow_callSP C X63 e63 (hw _ (List.mem_of_getElem? (i := 56) rfl)) (hw _ (List.mem_of_getElem? (i := 57) rfl)) (hw _ (List.mem_of_getElem? (i := 26) rfl)) (hw _ (List.mem_of_getElem? (i := 58) rfl)) (by decide) (rm_minJ l Z a0 hw rem per h62) ⟨rfl, rfl⟩ pd_0 rfl (argsL := [(.long rem), (.long per)]) (rest := []) rfl rfl d6_167 (Nat.le_of_ble_eq_true rfl) (Nat.le_of_ble_eq_true rfl) (by first | exact hc0 | exact hc1) (by first | exact hs0 | exact hs1) (pc' := 170) rfl (fun T64 X64 e64 => ?_)
          refine ow_lstore C X64 d6_170 (Ls' := #[.val (.ref o), .val (.long t), .second, .val (.long N), .second, .val (.long rem), .second, .val (.int (0 : Int32)), .val (.long (own_minJ rem per)), .second]) (by rcases o8 with ⟨rfl, rfl⟩ | ⟨_, rfl, rfl⟩ <;> rfl) (pc' := 172) rfl ?_
          refine ow_aloadN C X64 d6_172 rfl rfl (pc' := 173) rfl ?_
          refine ow_lload C X64 d6_173 rfl (pc' := 175) rfl ?_
          refine ow_putF C X64 e64 (hw _ (List.mem_of_getElem? (i := 59) rfl)) F62_8 E62_0 (Or.inl (hw _ (List.mem_of_getElem? (i := 60) rfl))) (hw _ (List.mem_of_getElem? (i := 7) rfl)) (ty := .long) (by decide) rfl rfl d6_175 (pc' := 178) rfl (fun T65 h65 X65 e65 W65 => ?_)
          have E65_0 := E62_0.wr W65
          have F65_1 := F62_1.other W65 (Or.inr (slot_ne (Or.inl (hw _ (List.mem_of_getElem? (i := 17) rfl))) (Or.inl (hw _ (List.mem_of_getElem? (i := 60) rfl))) (by decide) (t := (.array .long)) (t' := .long) (by decide) (by decide)))
          have F65_2 := F62_2.other W65 (Or.inr (slot_ne (Or.inl (hw _ (List.mem_of_getElem? (i := 19) rfl))) (Or.inl (hw _ (List.mem_of_getElem? (i := 60) rfl))) (by decide) (t := .int) (t' := .long) (by decide) (by decide)))
          have F65_3 := F62_3.other W65 (Or.inr (slot_ne (Or.inr (hw _ (List.mem_of_getElem? (i := 29) rfl))) (Or.inl (hw _ (List.mem_of_getElem? (i := 60) rfl))) (by decide) (t := .long) (t' := .long) (by decide) (by decide)))
          have F65_4 := F62_4.other W65 (Or.inr (slot_ne (Or.inr (hw _ (List.mem_of_getElem? (i := 31) rfl))) (Or.inl (hw _ (List.mem_of_getElem? (i := 60) rfl))) (by decide) (t := .int) (t' := .long) (by decide) (by decide)))
          have F65_5 := F62_5.other W65 (Or.inr (slot_ne (Or.inl (hw _ (List.mem_of_getElem? (i := 38) rfl))) (Or.inl (hw _ (List.mem_of_getElem? (i := 60) rfl))) (by decide) (t := .int) (t' := .long) (by decide) (by decide)))
          have F65_6 := F62_6.other W65 (Or.inr (slot_ne (Or.inl (hw _ (List.mem_of_getElem? (i := 55) rfl))) (Or.inl (hw _ (List.mem_of_getElem? (i := 60) rfl))) (by decide) (t := .int) (t' := .long) (by decide) (by decide)))
          have F65_7 := F62_7.other W65 (Or.inr (slot_ne (Or.inl (hw _ (List.mem_of_getElem? (i := 81) rfl))) (Or.inl (hw _ (List.mem_of_getElem? (i := 60) rfl))) (by decide) (t := .long) (t' := .long) (by decide) (by decide)))
          have F65_8 := F62_8.same W65
          have F65_9 := F62_9.other W65 (Or.inr (slot_ne (Or.inl (hw _ (List.mem_of_getElem? (i := 62) rfl))) (Or.inl (hw _ (List.mem_of_getElem? (i := 60) rfl))) (by decide) (t := .long) (t' := .long) (by decide) (by decide)))
          have A65_q := A62_q.other W65 (Ne.symm nq)
          have N65 := Fr.snoc X65 N62 go
          refine ow_aloadN C X65 d6_178 rfl rfl (pc' := 179) rfl ?_
          refine ow_lloadN C X65 d6_179 rfl (pc' := 180) rfl ?_
          refine ow_putF C X65 e65 (hw _ (List.mem_of_getElem? (i := 61) rfl)) F65_9 E65_0 (Or.inl (hw _ (List.mem_of_getElem? (i := 62) rfl))) (hw _ (List.mem_of_getElem? (i := 7) rfl)) (ty := .long) (by decide) rfl rfl d6_180 (pc' := 183) rfl (fun T66 h66 X66 e66 W66 => ?_)
          have E66_0 := E65_0.wr W66
          have F66_1 := F65_1.other W66 (Or.inr (slot_ne (Or.inl (hw _ (List.mem_of_getElem? (i := 17) rfl))) (Or.inl (hw _ (List.mem_of_getElem? (i := 62) rfl))) (by decide) (t := (.array .long)) (t' := .long) (by decide) (by decide)))
          have F66_2 := F65_2.other W66 (Or.inr (slot_ne (Or.inl (hw _ (List.mem_of_getElem? (i := 19) rfl))) (Or.inl (hw _ (List.mem_of_getElem? (i := 62) rfl))) (by decide) (t := .int) (t' := .long) (by decide) (by decide)))
          have F66_3 := F65_3.other W66 (Or.inr (slot_ne (Or.inr (hw _ (List.mem_of_getElem? (i := 29) rfl))) (Or.inl (hw _ (List.mem_of_getElem? (i := 62) rfl))) (by decide) (t := .long) (t' := .long) (by decide) (by decide)))
          have F66_4 := F65_4.other W66 (Or.inr (slot_ne (Or.inr (hw _ (List.mem_of_getElem? (i := 31) rfl))) (Or.inl (hw _ (List.mem_of_getElem? (i := 62) rfl))) (by decide) (t := .int) (t' := .long) (by decide) (by decide)))
          have F66_5 := F65_5.other W66 (Or.inr (slot_ne (Or.inl (hw _ (List.mem_of_getElem? (i := 38) rfl))) (Or.inl (hw _ (List.mem_of_getElem? (i := 62) rfl))) (by decide) (t := .int) (t' := .long) (by decide) (by decide)))
          have F66_6 := F65_6.other W66 (Or.inr (slot_ne (Or.inl (hw _ (List.mem_of_getElem? (i := 55) rfl))) (Or.inl (hw _ (List.mem_of_getElem? (i := 62) rfl))) (by decide) (t := .int) (t' := .long) (by decide) (by decide)))
          have F66_7 := F65_7.other W66 (Or.inr (slot_ne (Or.inl (hw _ (List.mem_of_getElem? (i := 81) rfl))) (Or.inl (hw _ (List.mem_of_getElem? (i := 62) rfl))) (by decide) (t := .long) (t' := .long) (by decide) (by decide)))
          have F66_8 := F65_8.other W66 (Or.inr (slot_ne (Or.inl (hw _ (List.mem_of_getElem? (i := 60) rfl))) (Or.inl (hw _ (List.mem_of_getElem? (i := 62) rfl))) (by decide) (t := .long) (t' := .long) (by decide) (by decide)))
          have F66_9 := F65_9.same W66
          have A66_q := A65_q.other W66 (Ne.symm nq)
          have N66 := Fr.snoc X66 N65 go
          refine ow_lload C X66 d6_183 rfl (pc' := 185) rfl ?_
          refine ow_lload C X66 d6_185 rfl (pc' := 187) rfl ?_
          refine ow_lsub C X66 d6_187 (pc' := 188) rfl ?_
          refine ow_lstore C X66 d6_188 (Ls' := #[.val (.ref o), .val (.long t), .second, .val (.long N), .second, .val (.long (rem - (own_minJ rem per))), .second, .val (.int (0 : Int32)), .val (.long (own_minJ rem per)), .second]) rfl (pc' := 190) rfl ?_
          refine ow_goto C X66 d6_190 (pcT := 3) (by decide) (by decide) ?_
          have hne : 0 ≠ n := fun w => b144 (by rw [w])
          have hlt := (own_newI (per := per) (own_posI b7) hP).2
          exact ih (rem - (own_minJ rem per)) q n (fun j => (f j)) ((0 + 1)) t (own_minJ rem per) (-1 : Int32) pf cc ss T66 _ _ _ _ _ (by omega) (Jvm.RoadKit.One.val rfl) (Or.inr ⟨_, rfl, rfl⟩) ⟨E66_0, F66_1, F66_2, F66_3, F66_4, F66_5, F66_6, F66_7, F66_8, F66_9, A66_q, go, gq, nq⟩ (J.first hP b7 (by omega) (by omega) J.1) N66 X66 e66
        · refine ow_aloadN C X53 d6_147 rfl rfl (pc' := 148) rfl ?_
          have hun : n = 0 := ((own_eqN (by omega) (by omega)).mp b144).symm
          have hnm : n < ms := by rw [hun]; exact J.room hP hLim hm2 hms b7 (Or.inl rfl)
          have UU := J.1.step hm2 hms hnm
          have hb1 := UU.bd hms
          have hc1 : cc + 1 ≤ 8 := by omega
          have hs1 : ss + own_nn n ms ≤ 903 - ts0 := by omega
          refine ow_callR C X53 e53 (hw _ (List.mem_of_getElem? (i := 44) rfl)) (hw _ (List.mem_of_getElem? (i := 45) rfl)) (hw _ (List.mem_of_getElem? (i := 46) rfl)) (hw _ (List.mem_of_getElem? (i := 7) rfl)) (hw _ (List.mem_of_getElem? (i := 8) rfl)) (hw _ (List.mem_of_getElem? (i := 47) rfl)) (by decide) E (rm_growM l Z a0 hw o q n (fun j => (f j)) 0 nt nf (-1 : Int32) pf per ms hz n0 hun hnm (by omega) rfl ⟨E, Fs, Fp, Fe, Fm, Fu, Fo, Fq, Ff, Ft, A, go, gq, nq⟩) pd_5 rfl (argsL := []) (rest := []) rfl rfl d6_148 (Nat.le_of_ble_eq_true rfl) (Nat.le_of_ble_eq_true rfl) (by first | exact hc0 | exact hc1) (by first | exact hs0 | exact hs1) (pc' := 151) rfl (fun T54 v54 L54 X54 Q54 => ?_)
          obtain ⟨rfl, N54, qg54, Rg54⟩ := Q54
          obtain ⟨Eg54, Fsg54, Fpg54, Feg54, Fmg54, Fug54, Fog54, Fqg54, Ffg54, Ftg54, Ag54, gog54, gqg54, nqg54⟩ := Rg54
          have Nn54 := Fr.app Nz N54
          show OwF p e below _ T54 (mkF m 151 #[.val (.ref o), .val (.long t), .second, .val (.long N), .second, .val (.long rem), .second, .val (.int (0 : Int32)), x8, x9] [])
          refine ow_aloadN C X54 d6_151 rfl rfl (pc' := 152) rfl ?_
          refine ow_dup C X54 d6_152 rfl (pc' := 153) rfl ?_
          refine ow_getF C X54 rfl (hw _ (List.mem_of_getElem? (i := 37) rfl)) Fug54 d6_153 (pc' := 156) rfl (fun T55 X55 e55 => ?_)
          refine ow_iconst (1 : Int32) C X55 d6_156 (by decide) (pc' := 157) rfl ?_
          refine ow_iadd C X55 d6_157 (pc' := 158) rfl ?_
          rw [own_inc (0)]
          refine ow_putF C X55 e55 (hw _ (List.mem_of_getElem? (i := 37) rfl)) Fug54 Eg54 (Or.inl (hw _ (List.mem_of_getElem? (i := 38) rfl))) (hw _ (List.mem_of_getElem? (i := 7) rfl)) (ty := .int) (by decide) rfl rfl d6_158 (pc' := 161) rfl (fun T56 h56 X56 e56 W56 => ?_)
          have E56_0 := Eg54.wr W56
          have F56_1 := Fsg54.other W56 (Or.inr (slot_ne (Or.inl (hw _ (List.mem_of_getElem? (i := 17) rfl))) (Or.inl (hw _ (List.mem_of_getElem? (i := 38) rfl))) (by decide) (t := (.array .long)) (t' := .int) (by decide) (by decide)))
          have F56_2 := Fpg54.other W56 (Or.inr (slot_ne (Or.inl (hw _ (List.mem_of_getElem? (i := 19) rfl))) (Or.inl (hw _ (List.mem_of_getElem? (i := 38) rfl))) (by decide) (t := .int) (t' := .int) (by decide) (by decide)))
          have F56_3 := Feg54.other W56 (Or.inr (slot_ne (Or.inr (hw _ (List.mem_of_getElem? (i := 29) rfl))) (Or.inl (hw _ (List.mem_of_getElem? (i := 38) rfl))) (by decide) (t := .long) (t' := .int) (by decide) (by decide)))
          have F56_4 := Fmg54.other W56 (Or.inr (slot_ne (Or.inr (hw _ (List.mem_of_getElem? (i := 31) rfl))) (Or.inl (hw _ (List.mem_of_getElem? (i := 38) rfl))) (by decide) (t := .int) (t' := .int) (by decide) (by decide)))
          have F56_5 := Fug54.same W56
          have F56_6 := Fog54.other W56 (Or.inr (slot_ne (Or.inl (hw _ (List.mem_of_getElem? (i := 55) rfl))) (Or.inl (hw _ (List.mem_of_getElem? (i := 38) rfl))) (by decide) (t := .int) (t' := .int) (by decide) (by decide)))
          have F56_7 := Fqg54.other W56 (Or.inr (slot_ne (Or.inl (hw _ (List.mem_of_getElem? (i := 81) rfl))) (Or.inl (hw _ (List.mem_of_getElem? (i := 38) rfl))) (by decide) (t := .long) (t' := .int) (by decide) (by decide)))
          have F56_8 := Ffg54.other W56 (Or.inr (slot_ne (Or.inl (hw _ (List.mem_of_getElem? (i := 60) rfl))) (Or.inl (hw _ (List.mem_of_getElem? (i := 38) rfl))) (by decide) (t := .long) (t' := .int) (by decide) (by decide)))
          have F56_9 := Ftg54.other W56 (Or.inr (slot_ne (Or.inl (hw _ (List.mem_of_getElem? (i := 62) rfl))) (Or.inl (hw _ (List.mem_of_getElem? (i := 38) rfl))) (by decide) (t := .long) (t' := .int) (by decide) (by decide)))
          have A56_qg54 := Ag54.other W56 (Ne.symm nqg54)
          have N56 := Fr.snoc X56 Nn54 gog54
          refine ow_lload C X56 d6_161 rfl (pc' := 163) rfl ?_
          refine ow_aloadN C X56 d6_163 rfl rfl (pc' := 164) rfl ?_
          refine ow_getF C X56 e56 (hw _ (List.mem_of_getElem? (i := 28) rfl)) F56_3 d6_164 (pc' := 167) rfl (fun T57 X57 e57 => ?_)
          refine ow_callSP C X57 e57 (hw _ (List.mem_of_getElem? (i := 56) rfl)) (hw _ (List.mem_of_getElem? (i := 57) rfl)) (hw _ (List.mem_of_getElem? (i := 26) rfl)) (hw _ (List.mem_of_getElem? (i := 58) rfl)) (by decide) (rm_minJ l Z a0 hw rem per h56) ⟨rfl, rfl⟩ pd_0 rfl (argsL := [(.long rem), (.long per)]) (rest := []) rfl rfl d6_167 (Nat.le_of_ble_eq_true rfl) (Nat.le_of_ble_eq_true rfl) (by first | exact hc0 | exact hc1) (by first | exact hs0 | exact hs1) (pc' := 170) rfl (fun T58 X58 e58 => ?_)
          refine ow_lstore C X58 d6_170 (Ls' := #[.val (.ref o), .val (.long t), .second, .val (.long N), .second, .val (.long rem), .second, .val (.int (0 : Int32)), .val (.long (own_minJ rem per)), .second]) (by rcases o8 with ⟨rfl, rfl⟩ | ⟨_, rfl, rfl⟩ <;> rfl) (pc' := 172) rfl ?_
          refine ow_aloadN C X58 d6_172 rfl rfl (pc' := 173) rfl ?_
          refine ow_lload C X58 d6_173 rfl (pc' := 175) rfl ?_
          refine ow_putF C X58 e58 (hw _ (List.mem_of_getElem? (i := 59) rfl)) F56_8 E56_0 (Or.inl (hw _ (List.mem_of_getElem? (i := 60) rfl))) (hw _ (List.mem_of_getElem? (i := 7) rfl)) (ty := .long) (by decide) rfl rfl d6_175 (pc' := 178) rfl (fun T59 h59 X59 e59 W59 => ?_)
          have E59_0 := E56_0.wr W59
          have F59_1 := F56_1.other W59 (Or.inr (slot_ne (Or.inl (hw _ (List.mem_of_getElem? (i := 17) rfl))) (Or.inl (hw _ (List.mem_of_getElem? (i := 60) rfl))) (by decide) (t := (.array .long)) (t' := .long) (by decide) (by decide)))
          have F59_2 := F56_2.other W59 (Or.inr (slot_ne (Or.inl (hw _ (List.mem_of_getElem? (i := 19) rfl))) (Or.inl (hw _ (List.mem_of_getElem? (i := 60) rfl))) (by decide) (t := .int) (t' := .long) (by decide) (by decide)))
          have F59_3 := F56_3.other W59 (Or.inr (slot_ne (Or.inr (hw _ (List.mem_of_getElem? (i := 29) rfl))) (Or.inl (hw _ (List.mem_of_getElem? (i := 60) rfl))) (by decide) (t := .long) (t' := .long) (by decide) (by decide)))
          have F59_4 := F56_4.other W59 (Or.inr (slot_ne (Or.inr (hw _ (List.mem_of_getElem? (i := 31) rfl))) (Or.inl (hw _ (List.mem_of_getElem? (i := 60) rfl))) (by decide) (t := .int) (t' := .long) (by decide) (by decide)))
          have F59_5 := F56_5.other W59 (Or.inr (slot_ne (Or.inl (hw _ (List.mem_of_getElem? (i := 38) rfl))) (Or.inl (hw _ (List.mem_of_getElem? (i := 60) rfl))) (by decide) (t := .int) (t' := .long) (by decide) (by decide)))
          have F59_6 := F56_6.other W59 (Or.inr (slot_ne (Or.inl (hw _ (List.mem_of_getElem? (i := 55) rfl))) (Or.inl (hw _ (List.mem_of_getElem? (i := 60) rfl))) (by decide) (t := .int) (t' := .long) (by decide) (by decide)))
          have F59_7 := F56_7.other W59 (Or.inr (slot_ne (Or.inl (hw _ (List.mem_of_getElem? (i := 81) rfl))) (Or.inl (hw _ (List.mem_of_getElem? (i := 60) rfl))) (by decide) (t := .long) (t' := .long) (by decide) (by decide)))
          have F59_8 := F56_8.same W59
          have F59_9 := F56_9.other W59 (Or.inr (slot_ne (Or.inl (hw _ (List.mem_of_getElem? (i := 62) rfl))) (Or.inl (hw _ (List.mem_of_getElem? (i := 60) rfl))) (by decide) (t := .long) (t' := .long) (by decide) (by decide)))
          have A59_qg54 := A56_qg54.other W59 (Ne.symm nqg54)
          have N59 := Fr.snoc X59 N56 gog54
          refine ow_aloadN C X59 d6_178 rfl rfl (pc' := 179) rfl ?_
          refine ow_lloadN C X59 d6_179 rfl (pc' := 180) rfl ?_
          refine ow_putF C X59 e59 (hw _ (List.mem_of_getElem? (i := 61) rfl)) F59_9 E59_0 (Or.inl (hw _ (List.mem_of_getElem? (i := 62) rfl))) (hw _ (List.mem_of_getElem? (i := 7) rfl)) (ty := .long) (by decide) rfl rfl d6_180 (pc' := 183) rfl (fun T60 h60 X60 e60 W60 => ?_)
          have E60_0 := E59_0.wr W60
          have F60_1 := F59_1.other W60 (Or.inr (slot_ne (Or.inl (hw _ (List.mem_of_getElem? (i := 17) rfl))) (Or.inl (hw _ (List.mem_of_getElem? (i := 62) rfl))) (by decide) (t := (.array .long)) (t' := .long) (by decide) (by decide)))
          have F60_2 := F59_2.other W60 (Or.inr (slot_ne (Or.inl (hw _ (List.mem_of_getElem? (i := 19) rfl))) (Or.inl (hw _ (List.mem_of_getElem? (i := 62) rfl))) (by decide) (t := .int) (t' := .long) (by decide) (by decide)))
          have F60_3 := F59_3.other W60 (Or.inr (slot_ne (Or.inr (hw _ (List.mem_of_getElem? (i := 29) rfl))) (Or.inl (hw _ (List.mem_of_getElem? (i := 62) rfl))) (by decide) (t := .long) (t' := .long) (by decide) (by decide)))
          have F60_4 := F59_4.other W60 (Or.inr (slot_ne (Or.inr (hw _ (List.mem_of_getElem? (i := 31) rfl))) (Or.inl (hw _ (List.mem_of_getElem? (i := 62) rfl))) (by decide) (t := .int) (t' := .long) (by decide) (by decide)))
          have F60_5 := F59_5.other W60 (Or.inr (slot_ne (Or.inl (hw _ (List.mem_of_getElem? (i := 38) rfl))) (Or.inl (hw _ (List.mem_of_getElem? (i := 62) rfl))) (by decide) (t := .int) (t' := .long) (by decide) (by decide)))
          have F60_6 := F59_6.other W60 (Or.inr (slot_ne (Or.inl (hw _ (List.mem_of_getElem? (i := 55) rfl))) (Or.inl (hw _ (List.mem_of_getElem? (i := 62) rfl))) (by decide) (t := .int) (t' := .long) (by decide) (by decide)))
          have F60_7 := F59_7.other W60 (Or.inr (slot_ne (Or.inl (hw _ (List.mem_of_getElem? (i := 81) rfl))) (Or.inl (hw _ (List.mem_of_getElem? (i := 62) rfl))) (by decide) (t := .long) (t' := .long) (by decide) (by decide)))
          have F60_8 := F59_8.other W60 (Or.inr (slot_ne (Or.inl (hw _ (List.mem_of_getElem? (i := 60) rfl))) (Or.inl (hw _ (List.mem_of_getElem? (i := 62) rfl))) (by decide) (t := .long) (t' := .long) (by decide) (by decide)))
          have F60_9 := F59_9.same W60
          have A60_qg54 := A59_qg54.other W60 (Ne.symm nqg54)
          have N60 := Fr.snoc X60 N59 gog54
          refine ow_lload C X60 d6_183 rfl (pc' := 185) rfl ?_
          refine ow_lload C X60 d6_185 rfl (pc' := 187) rfl ?_
          refine ow_lsub C X60 d6_187 (pc' := 188) rfl ?_
          refine ow_lstore C X60 d6_188 (Ls' := #[.val (.ref o), .val (.long t), .second, .val (.long N), .second, .val (.long (rem - (own_minJ rem per))), .second, .val (.int (0 : Int32)), .val (.long (own_minJ rem per)), .second]) rfl (pc' := 190) rfl ?_
          refine ow_goto C X60 d6_190 (pcT := 3) (by decide) (by decide) ?_
          have g1 := own_nn_gt hnm
          have g2 := own_nn_le n ms
          have hlt := (own_newI (per := per) (own_posI b7) hP).2
          exact ih (rem - (own_minJ rem per)) qg54 (own_nn n ms) (fun j => (if j < n then (f j) else 0)) ((0 + 1)) t (own_minJ rem per) (-1 : Int32) pf (cc + 1) (ss + own_nn n ms) T60 _ _ _ _ _ (by omega) (Jvm.RoadKit.One.val rfl) (Or.inr ⟨_, rfl, rfl⟩) ⟨E60_0, F60_1, F60_2, F60_3, F60_4, F60_5, F60_6, F60_7, F60_8, F60_9, A60_qg54, gog54, gqg54, nqg54⟩ (J.first hP b7 (by omega) (by omega) UU) N60 X60 e60
    · obtain ⟨v, rfl⟩ : ∃ v, u = v + 1 := ⟨u - 1, by omega⟩
      have hv : v + 1 ≤ n := hb.1
      rcases hp with ⟨rfl, -⟩ | ⟨k, rfl, -, hk⟩
      · obtain ⟨E, Fs, Fp, Fe, Fm, Fu, Fo, Fq, Ff, Ft, A, go, gq, nq⟩ := R
        refine ow_lload C Xz d6_3 rfl (pc' := 5) rfl ?_
        refine ow_lconst (0 : Int64) C Xz d6_5 (by decide) (pc' := 6) rfl ?_
        refine ow_lcmp C Xz d6_6 (pc' := 7) rfl ?_
        refine ow_lif_le C Xz d6_7 (pcT := 193) (pc' := 10) (by decide) (by decide) rfl (fun b7 => ?_) (fun b7 => ?_)
        · exact kN rem q n f (v + 1) nt nf (-1 : Int32) pf cc ss Tz _ _ _ _ _ b7 Rk J Nz Xz ez
        · refine ow_aloadN C Xz d6_10 rfl rfl (pc' := 11) rfl ?_
          refine ow_getF C Xz ez (hw _ (List.mem_of_getElem? (i := 37) rfl)) Fu d6_11 (pc' := 14) rfl (fun T67 X67 e67 => ?_)
          refine ow_if_le C X67 d6_14 (pcT := 33) (pc' := 17) (by decide) (by decide) rfl (fun bq => absurd (own_up (Nat.succ_pos v) (by omega)) bq) (fun _ => ?_)
          refine ow_aloadN C X67 d6_17 rfl rfl (pc' := 18) rfl ?_
          refine ow_getF C X67 e67 (hw _ (List.mem_of_getElem? (i := 59) rfl)) Ff d6_18 (pc' := 21) rfl (fun T68 X68 e68 => ?_)
          refine ow_aloadN C X68 d6_21 rfl rfl (pc' := 22) rfl ?_
          refine ow_getF C X68 e68 (hw _ (List.mem_of_getElem? (i := 28) rfl)) Fe d6_22 (pc' := 25) rfl (fun T69 X69 e69 => ?_)
          refine ow_lcmp C X69 d6_25 (pc' := 26) rfl ?_
          refine ow_lif_ge C X69 d6_26 (pcT := 33) (pc' := 29) (by decide) (by decide) rfl (fun b26 => ?_) (fun b26 => ?_)
          · refine ow_iconst (0 : Int32) C X69 d6_33 (by decide) (pc' := 34) rfl ?_
            refine ow_istore C X69 d6_34 (Ls' := #[.val (.ref o), .val (.long t), .second, .val (.long N), .second, .val (.long rem), .second, .val (.int (0 : Int32)), x8, x9]) (XS.store1 rfl o7 rfl) (pc' := 36) rfl ?_
            refine ow_iload C X69 d6_36 rfl (pc' := 38) rfl ?_
            refine ow_if_eq C X69 d6_38 (pcT := 80) (pc' := 41) (by decide) (by decide) rfl (fun _ => ?_) (fun bq => absurd (by decide) bq)
            refine ow_iload C X69 d6_80 rfl (pc' := 82) rfl ?_
            refine ow_if_eq C X69 d6_82 (pcT := 115) (pc' := 85) (by decide) (by decide) rfl (fun _ => ?_) (fun bq => absurd (by decide) bq)
            refine ow_aloadN C X69 d6_115 rfl rfl (pc' := 116) rfl ?_
            refine ow_getF C X69 e69 (hw _ (List.mem_of_getElem? (i := 37) rfl)) Fu d6_116 (pc' := 119) rfl (fun T102 X102 e102 => ?_)
            refine ow_if_le C X102 d6_119 (pcT := 135) (pc' := 122) (by decide) (by decide) rfl (fun bq => absurd (own_up (Nat.succ_pos v) (by omega)) bq) (fun _ => ?_)
            refine ow_aloadN C X102 d6_122 rfl rfl (pc' := 123) rfl ?_
            refine ow_getF C X102 e102 (hw _ (List.mem_of_getElem? (i := 16) rfl)) Fs d6_123 (pc' := 126) rfl (fun T103 X103 e103 => ?_)
            refine ow_aloadN C X103 d6_126 rfl rfl (pc' := 127) rfl ?_
            refine ow_callR C X103 e103 (hw _ (List.mem_of_getElem? (i := 63) rfl)) (hw _ (List.mem_of_getElem? (i := 64) rfl)) (hw _ (List.mem_of_getElem? (i := 65) rfl)) (hw _ (List.mem_of_getElem? (i := 7) rfl)) (hw _ (List.mem_of_getElem? (i := 8) rfl)) (hw _ (List.mem_of_getElem? (i := 66) rfl)) (by decide) E (rm_newest l Z a0 hw o q n f v nt nf (-1 : Int32) pf per ms hz n0 hv hn ⟨E, Fs, Fp, Fe, Fm, Fu, Fo, Fq, Ff, Ft, A, go, gq, nq⟩) pd_4 rfl (argsL := []) (rest := [(.ref q)]) rfl rfl d6_127 (Nat.le_of_ble_eq_true rfl) (Nat.le_of_ble_eq_true rfl) (by first | exact hc0 | exact hc1) (by first | exact hs0 | exact hs1) (pc' := 130) rfl (fun T104 v104 L104 X104 Q104 => ?_)
            obtain ⟨rfl, rfl, e104⟩ := Q104
            rw [List.append_nil] at X104
            show OwF p e below _ T104 (mkF m 130 #[.val (.ref o), .val (.long t), .second, .val (.long N), .second, .val (.long rem), .second, .val (.int (0 : Int32)), x8, x9] [(.int (Int32.ofNat v)), (.ref q)])
            refine ow_aloadN C X104 d6_130 rfl rfl (pc' := 131) rfl ?_
            refine ow_getF C X104 e104 (hw _ (List.mem_of_getElem? (i := 61) rfl)) Ft d6_131 (pc' := 134) rfl (fun T105 X105 e105 => ?_)
            refine ow_lastore (i := v) C X105 e105 A (own_ix0 (by omega)) (own_ixN (by omega)) (by omega) d6_134 (pc' := 135) rfl (fun T106 h106 X106 e106 W106 => ?_)
            have E106_0 := E.wr W106
            have F106_1 := Fs.other W106 (Or.inl nq)
            have F106_2 := Fp.other W106 (Or.inl nq)
            have F106_3 := Fe.other W106 (Or.inl nq)
            have F106_4 := Fm.other W106 (Or.inl nq)
            have F106_5 := Fu.other W106 (Or.inl nq)
            have F106_6 := Fo.other W106 (Or.inl nq)
            have F106_7 := Fq.other W106 (Or.inl nq)
            have F106_8 := Ff.other W106 (Or.inl nq)
            have F106_9 := Ft.other W106 (Or.inl nq)
            have A106 : OwA Z h106 q .long n (fun j => .long (if j = v then nt else (f j))) := (A.set W106).congr (fun j _ => by (try dsimp only); split <;> rfl)
            have N106 := Fr.snoc X106 Nz gq
            refine ow_aloadN C X106 d6_135 rfl rfl (pc' := 136) rfl ?_
            refine ow_getF C X106 e106 (hw _ (List.mem_of_getElem? (i := 37) rfl)) F106_5 d6_136 (pc' := 139) rfl (fun T107 X107 e107 => ?_)
            refine ow_aloadN C X107 d6_139 rfl rfl (pc' := 140) rfl ?_
            refine ow_getF C X107 e107 (hw _ (List.mem_of_getElem? (i := 16) rfl)) F106_1 d6_140 (pc' := 143) rfl (fun T108 X108 e108 => ?_)
            refine ow_arraylength C X108 e108 A106 (z := (Int32.ofNat n)) rfl d6_143 (pc' := 144) rfl ?_
            refine ow_icmp_ne C X108 d6_144 (pcT := 151) (pc' := 147) (by decide) (by decide) rfl (fun b144 => ?_) (fun b144 => ?_)
            · refine ow_aloadN C X108 d6_151 rfl rfl (pc' := 152) rfl ?_
              refine ow_dup C X108 d6_152 rfl (pc' := 153) rfl ?_
              refine ow_getF C X108 e108 (hw _ (List.mem_of_getElem? (i := 37) rfl)) F106_5 d6_153 (pc' := 156) rfl (fun T116 X116 e116 => ?_)
              refine ow_iconst (1 : Int32) C X116 d6_156 (by decide) (pc' := 157) rfl ?_
              refine ow_iadd C X116 d6_157 (pc' := 158) rfl ?_
              rw [own_inc ((v + 1))]
              refine ow_putF C X116 e116 (hw _ (List.mem_of_getElem? (i := 37) rfl)) F106_5 E106_0 (Or.inl (hw _ (List.mem_of_getElem? (i := 38) rfl))) (hw _ (List.mem_of_getElem? (i := 7) rfl)) (ty := .int) (by decide) rfl rfl d6_158 (pc' := 161) rfl (fun T117 h117 X117 e117 W117 => ?_)
              have E117_0 := E106_0.wr W117
              have F117_1 := F106_1.other W117 (Or.inr (slot_ne (Or.inl (hw _ (List.mem_of_getElem? (i := 17) rfl))) (Or.inl (hw _ (List.mem_of_getElem? (i := 38) rfl))) (by decide) (t := (.array .long)) (t' := .int) (by decide) (by decide)))
              have F117_2 := F106_2.other W117 (Or.inr (slot_ne (Or.inl (hw _ (List.mem_of_getElem? (i := 19) rfl))) (Or.inl (hw _ (List.mem_of_getElem? (i := 38) rfl))) (by decide) (t := .int) (t' := .int) (by decide) (by decide)))
              have F117_3 := F106_3.other W117 (Or.inr (slot_ne (Or.inr (hw _ (List.mem_of_getElem? (i := 29) rfl))) (Or.inl (hw _ (List.mem_of_getElem? (i := 38) rfl))) (by decide) (t := .long) (t' := .int) (by decide) (by decide)))
              have F117_4 := F106_4.other W117 (Or.inr (slot_ne (Or.inr (hw _ (List.mem_of_getElem? (i := 31) rfl))) (Or.inl (hw _ (List.mem_of_getElem? (i := 38) rfl))) (by decide) (t := .int) (t' := .int) (by decide) (by decide)))
              have F117_5 := F106_5.same W117
              have F117_6 := F106_6.other W117 (Or.inr (slot_ne (Or.inl (hw _ (List.mem_of_getElem? (i := 55) rfl))) (Or.inl (hw _ (List.mem_of_getElem? (i := 38) rfl))) (by decide) (t := .int) (t' := .int) (by decide) (by decide)))
              have F117_7 := F106_7.other W117 (Or.inr (slot_ne (Or.inl (hw _ (List.mem_of_getElem? (i := 81) rfl))) (Or.inl (hw _ (List.mem_of_getElem? (i := 38) rfl))) (by decide) (t := .long) (t' := .int) (by decide) (by decide)))
              have F117_8 := F106_8.other W117 (Or.inr (slot_ne (Or.inl (hw _ (List.mem_of_getElem? (i := 60) rfl))) (Or.inl (hw _ (List.mem_of_getElem? (i := 38) rfl))) (by decide) (t := .long) (t' := .int) (by decide) (by decide)))
              have F117_9 := F106_9.other W117 (Or.inr (slot_ne (Or.inl (hw _ (List.mem_of_getElem? (i := 62) rfl))) (Or.inl (hw _ (List.mem_of_getElem? (i := 38) rfl))) (by decide) (t := .long) (t' := .int) (by decide) (by decide)))
              have A117_q := A106.other W117 (Ne.symm nq)
              have N117 := Fr.snoc X117 N106 go
              refine ow_lload C X117 d6_161 rfl (pc' := 163) rfl ?_
              refine ow_aloadN C X117 d6_163 rfl rfl (pc' := 164) rfl ?_
              refine ow_getF C X117 e117 (hw _ (List.mem_of_getElem? (i := 28) rfl)) F117_3 d6_164 (pc' := 167) rfl (fun T118 X118 e118 => ?_)
              refine ow_callSP C X118 e118 (hw _ (List.mem_of_getElem? (i := 56) rfl)) (hw _ (List.mem_of_getElem? (i := 57) rfl)) (hw _ (List.mem_of_getElem? (i := 26) rfl)) (hw _ (List.mem_of_getElem? (i := 58) rfl)) (by decide) (rm_minJ l Z a0 hw rem per h117) ⟨rfl, rfl⟩ pd_0 rfl (argsL := [(.long rem), (.long per)]) (rest := []) rfl rfl d6_167 (Nat.le_of_ble_eq_true rfl) (Nat.le_of_ble_eq_true rfl) (by first | exact hc0 | exact hc1) (by first | exact hs0 | exact hs1) (pc' := 170) rfl (fun T119 X119 e119 => ?_)
              refine ow_lstore C X119 d6_170 (Ls' := #[.val (.ref o), .val (.long t), .second, .val (.long N), .second, .val (.long rem), .second, .val (.int (0 : Int32)), .val (.long (own_minJ rem per)), .second]) (by rcases o8 with ⟨rfl, rfl⟩ | ⟨_, rfl, rfl⟩ <;> rfl) (pc' := 172) rfl ?_
              refine ow_aloadN C X119 d6_172 rfl rfl (pc' := 173) rfl ?_
              refine ow_lload C X119 d6_173 rfl (pc' := 175) rfl ?_
              refine ow_putF C X119 e119 (hw _ (List.mem_of_getElem? (i := 59) rfl)) F117_8 E117_0 (Or.inl (hw _ (List.mem_of_getElem? (i := 60) rfl))) (hw _ (List.mem_of_getElem? (i := 7) rfl)) (ty := .long) (by decide) rfl rfl d6_175 (pc' := 178) rfl (fun T120 h120 X120 e120 W120 => ?_)
              have E120_0 := E117_0.wr W120
              have F120_1 := F117_1.other W120 (Or.inr (slot_ne (Or.inl (hw _ (List.mem_of_getElem? (i := 17) rfl))) (Or.inl (hw _ (List.mem_of_getElem? (i := 60) rfl))) (by decide) (t := (.array .long)) (t' := .long) (by decide) (by decide)))
              have F120_2 := F117_2.other W120 (Or.inr (slot_ne (Or.inl (hw _ (List.mem_of_getElem? (i := 19) rfl))) (Or.inl (hw _ (List.mem_of_getElem? (i := 60) rfl))) (by decide) (t := .int) (t' := .long) (by decide) (by decide)))
              have F120_3 := F117_3.other W120 (Or.inr (slot_ne (Or.inr (hw _ (List.mem_of_getElem? (i := 29) rfl))) (Or.inl (hw _ (List.mem_of_getElem? (i := 60) rfl))) (by decide) (t := .long) (t' := .long) (by decide) (by decide)))
              have F120_4 := F117_4.other W120 (Or.inr (slot_ne (Or.inr (hw _ (List.mem_of_getElem? (i := 31) rfl))) (Or.inl (hw _ (List.mem_of_getElem? (i := 60) rfl))) (by decide) (t := .int) (t' := .long) (by decide) (by decide)))
              have F120_5 := F117_5.other W120 (Or.inr (slot_ne (Or.inl (hw _ (List.mem_of_getElem? (i := 38) rfl))) (Or.inl (hw _ (List.mem_of_getElem? (i := 60) rfl))) (by decide) (t := .int) (t' := .long) (by decide) (by decide)))
              have F120_6 := F117_6.other W120 (Or.inr (slot_ne (Or.inl (hw _ (List.mem_of_getElem? (i := 55) rfl))) (Or.inl (hw _ (List.mem_of_getElem? (i := 60) rfl))) (by decide) (t := .int) (t' := .long) (by decide) (by decide)))
              have F120_7 := F117_7.other W120 (Or.inr (slot_ne (Or.inl (hw _ (List.mem_of_getElem? (i := 81) rfl))) (Or.inl (hw _ (List.mem_of_getElem? (i := 60) rfl))) (by decide) (t := .long) (t' := .long) (by decide) (by decide)))
              have F120_8 := F117_8.same W120
              have F120_9 := F117_9.other W120 (Or.inr (slot_ne (Or.inl (hw _ (List.mem_of_getElem? (i := 62) rfl))) (Or.inl (hw _ (List.mem_of_getElem? (i := 60) rfl))) (by decide) (t := .long) (t' := .long) (by decide) (by decide)))
              have A120_q := A117_q.other W120 (Ne.symm nq)
              have N120 := Fr.snoc X120 N117 go
              refine ow_aloadN C X120 d6_178 rfl rfl (pc' := 179) rfl ?_
              refine ow_lloadN C X120 d6_179 rfl (pc' := 180) rfl ?_
              refine ow_putF C X120 e120 (hw _ (List.mem_of_getElem? (i := 61) rfl)) F120_9 E120_0 (Or.inl (hw _ (List.mem_of_getElem? (i := 62) rfl))) (hw _ (List.mem_of_getElem? (i := 7) rfl)) (ty := .long) (by decide) rfl rfl d6_180 (pc' := 183) rfl (fun T121 h121 X121 e121 W121 => ?_)
              have E121_0 := E120_0.wr W121
              have F121_1 := F120_1.other W121 (Or.inr (slot_ne (Or.inl (hw _ (List.mem_of_getElem? (i := 17) rfl))) (Or.inl (hw _ (List.mem_of_getElem? (i := 62) rfl))) (by decide) (t := (.array .long)) (t' := .long) (by decide) (by decide)))
              have F121_2 := F120_2.other W121 (Or.inr (slot_ne (Or.inl (hw _ (List.mem_of_getElem? (i := 19) rfl))) (Or.inl (hw _ (List.mem_of_getElem? (i := 62) rfl))) (by decide) (t := .int) (t' := .long) (by decide) (by decide)))
              have F121_3 := F120_3.other W121 (Or.inr (slot_ne (Or.inr (hw _ (List.mem_of_getElem? (i := 29) rfl))) (Or.inl (hw _ (List.mem_of_getElem? (i := 62) rfl))) (by decide) (t := .long) (t' := .long) (by decide) (by decide)))
              have F121_4 := F120_4.other W121 (Or.inr (slot_ne (Or.inr (hw _ (List.mem_of_getElem? (i := 31) rfl))) (Or.inl (hw _ (List.mem_of_getElem? (i := 62) rfl))) (by decide) (t := .int) (t' := .long) (by decide) (by decide)))
              have F121_5 := F120_5.other W121 (Or.inr (slot_ne (Or.inl (hw _ (List.mem_of_getElem? (i := 38) rfl))) (Or.inl (hw _ (List.mem_of_getElem? (i := 62) rfl))) (by decide) (t := .int) (t' := .long) (by decide) (by decide)))
              have F121_6 := F120_6.other W121 (Or.inr (slot_ne (Or.inl (hw _ (List.mem_of_getElem? (i := 55) rfl))) (Or.inl (hw _ (List.mem_of_getElem? (i := 62) rfl))) (by decide) (t := .int) (t' := .long) (by decide) (by decide)))
              have F121_7 := F120_7.other W121 (Or.inr (slot_ne (Or.inl (hw _ (List.mem_of_getElem? (i := 81) rfl))) (Or.inl (hw _ (List.mem_of_getElem? (i := 62) rfl))) (by decide) (t := .long) (t' := .long) (by decide) (by decide)))
              have F121_8 := F120_8.other W121 (Or.inr (slot_ne (Or.inl (hw _ (List.mem_of_getElem? (i := 60) rfl))) (Or.inl (hw _ (List.mem_of_getElem? (i := 62) rfl))) (by decide) (t := .long) (t' := .long) (by decide) (by decide)))
              have F121_9 := F120_9.same W121
              have A121_q := A120_q.other W121 (Ne.symm nq)
              have N121 := Fr.snoc X121 N120 go
              refine ow_lload C X121 d6_183 rfl (pc' := 185) rfl ?_
              refine ow_lload C X121 d6_185 rfl (pc' := 187) rfl ?_
              refine ow_lsub C X121 d6_187 (pc' := 188) rfl ?_
              refine ow_lstore C X121 d6_188 (Ls' := #[.val (.ref o), .val (.long t), .second, .val (.long N), .second, .val (.long (rem - (own_minJ rem per))), .second, .val (.int (0 : Int32)), .val (.long (own_minJ rem per)), .second]) rfl (pc' := 190) rfl ?_
              refine ow_goto C X121 d6_190 (pcT := 3) (by decide) (by decide) ?_
              have hne : (v + 1) ≠ n := fun w => b144 (by rw [w])
              have hlt := (own_newI (per := per) (own_posI b7) hP).2
              exact ih (rem - (own_minJ rem per)) q n (fun j => (if j = v then nt else (f j))) (((v + 1) + 1)) t (own_minJ rem per) (-1 : Int32) pf cc ss T121 _ _ _ _ _ (by omega) (Jvm.RoadKit.One.val rfl) (Or.inr ⟨_, rfl, rfl⟩) ⟨E121_0, F121_1, F121_2, F121_3, F121_4, F121_5, F121_6, F121_7, F121_8, F121_9, A121_q, go, gq, nq⟩ (J.full hP b7 b26 (by omega) (by omega) J.1 (fun j hj => own_Tnew hj)) N121 X121 e121
            · refine ow_aloadN C X108 d6_147 rfl rfl (pc' := 148) rfl ?_
              have hun : n = (v + 1) := ((own_eqN (by omega) (by omega)).mp b144).symm
              have hnm : n < ms := by rw [hun]; exact J.room hP hLim hm2 hms b7 (Or.inr (Or.inl b26))
              have UU := J.1.step hm2 hms hnm
              have hb1 := UU.bd hms
              have hc1 : cc + 1 ≤ 8 := by omega
              have hs1 : ss + own_nn n ms ≤ 903 - ts0 := by omega
              refine ow_callR C X108 e108 (hw _ (List.mem_of_getElem? (i := 44) rfl)) (hw _ (List.mem_of_getElem? (i := 45) rfl)) (hw _ (List.mem_of_getElem? (i := 46) rfl)) (hw _ (List.mem_of_getElem? (i := 7) rfl)) (hw _ (List.mem_of_getElem? (i := 8) rfl)) (hw _ (List.mem_of_getElem? (i := 47) rfl)) (by decide) E106_0 (rm_growM l Z a0 hw o q n (fun j => (if j = v then nt else (f j))) (v + 1) nt nf (-1 : Int32) pf per ms h106 n0 hun hnm (by omega) rfl ⟨E106_0, F106_1, F106_2, F106_3, F106_4, F106_5, F106_6, F106_7, F106_8, F106_9, A106, go, gq, nq⟩) pd_5 rfl (argsL := []) (rest := []) rfl rfl d6_148 (Nat.le_of_ble_eq_true rfl) (Nat.le_of_ble_eq_true rfl) (by first | exact hc0 | exact hc1) (by first | exact hs0 | exact hs1) (pc' := 151) rfl (fun T109 v109 L109 X109 Q109 => ?_)
              obtain ⟨rfl, N109, qg109, Rg109⟩ := Q109
              obtain ⟨Eg109, Fsg109, Fpg109, Feg109, Fmg109, Fug109, Fog109, Fqg109, Ffg109, Ftg109, Ag109, gog109, gqg109, nqg109⟩ := Rg109
              have Nn109 := Fr.app N106 N109
              show OwF p e below _ T109 (mkF m 151 #[.val (.ref o), .val (.long t), .second, .val (.long N), .second, .val (.long rem), .second, .val (.int (0 : Int32)), x8, x9] [])
              refine ow_aloadN C X109 d6_151 rfl rfl (pc' := 152) rfl ?_
              refine ow_dup C X109 d6_152 rfl (pc' := 153) rfl ?_
              refine ow_getF C X109 rfl (hw _ (List.mem_of_getElem? (i := 37) rfl)) Fug109 d6_153 (pc' := 156) rfl (fun T110 X110 e110 => ?_)
              refine ow_iconst (1 : Int32) C X110 d6_156 (by decide) (pc' := 157) rfl ?_
              refine ow_iadd C X110 d6_157 (pc' := 158) rfl ?_
              rw [own_inc ((v + 1))]
              refine ow_putF C X110 e110 (hw _ (List.mem_of_getElem? (i := 37) rfl)) Fug109 Eg109 (Or.inl (hw _ (List.mem_of_getElem? (i := 38) rfl))) (hw _ (List.mem_of_getElem? (i := 7) rfl)) (ty := .int) (by decide) rfl rfl d6_158 (pc' := 161) rfl (fun T111 h111 X111 e111 W111 => ?_)
              have E111_0 := Eg109.wr W111
              have F111_1 := Fsg109.other W111 (Or.inr (slot_ne (Or.inl (hw _ (List.mem_of_getElem? (i := 17) rfl))) (Or.inl (hw _ (List.mem_of_getElem? (i := 38) rfl))) (by decide) (t := (.array .long)) (t' := .int) (by decide) (by decide)))
              have F111_2 := Fpg109.other W111 (Or.inr (slot_ne (Or.inl (hw _ (List.mem_of_getElem? (i := 19) rfl))) (Or.inl (hw _ (List.mem_of_getElem? (i := 38) rfl))) (by decide) (t := .int) (t' := .int) (by decide) (by decide)))
              have F111_3 := Feg109.other W111 (Or.inr (slot_ne (Or.inr (hw _ (List.mem_of_getElem? (i := 29) rfl))) (Or.inl (hw _ (List.mem_of_getElem? (i := 38) rfl))) (by decide) (t := .long) (t' := .int) (by decide) (by decide)))
              have F111_4 := Fmg109.other W111 (Or.inr (slot_ne (Or.inr (hw _ (List.mem_of_getElem? (i := 31) rfl))) (Or.inl (hw _ (List.mem_of_getElem? (i := 38) rfl))) (by decide) (t := .int) (t' := .int) (by decide) (by decide)))
              have F111_5 := Fug109.same W111
              have F111_6 := Fog109.other W111 (Or.inr (slot_ne (Or.inl (hw _ (List.mem_of_getElem? (i := 55) rfl))) (Or.inl (hw _ (List.mem_of_getElem? (i := 38) rfl))) (by decide) (t := .int) (t' := .int) (by decide) (by decide)))
              have F111_7 := Fqg109.other W111 (Or.inr (slot_ne (Or.inl (hw _ (List.mem_of_getElem? (i := 81) rfl))) (Or.inl (hw _ (List.mem_of_getElem? (i := 38) rfl))) (by decide) (t := .long) (t' := .int) (by decide) (by decide)))
              have F111_8 := Ffg109.other W111 (Or.inr (slot_ne (Or.inl (hw _ (List.mem_of_getElem? (i := 60) rfl))) (Or.inl (hw _ (List.mem_of_getElem? (i := 38) rfl))) (by decide) (t := .long) (t' := .int) (by decide) (by decide)))
              have F111_9 := Ftg109.other W111 (Or.inr (slot_ne (Or.inl (hw _ (List.mem_of_getElem? (i := 62) rfl))) (Or.inl (hw _ (List.mem_of_getElem? (i := 38) rfl))) (by decide) (t := .long) (t' := .int) (by decide) (by decide)))
              have A111_qg109 := Ag109.other W111 (Ne.symm nqg109)
              have N111 := Fr.snoc X111 Nn109 gog109
              refine ow_lload C X111 d6_161 rfl (pc' := 163) rfl ?_
              refine ow_aloadN C X111 d6_163 rfl rfl (pc' := 164) rfl ?_
              refine ow_getF C X111 e111 (hw _ (List.mem_of_getElem? (i := 28) rfl)) F111_3 d6_164 (pc' := 167) rfl (fun T112 X112 e112 => ?_)
              refine ow_callSP C X112 e112 (hw _ (List.mem_of_getElem? (i := 56) rfl)) (hw _ (List.mem_of_getElem? (i := 57) rfl)) (hw _ (List.mem_of_getElem? (i := 26) rfl)) (hw _ (List.mem_of_getElem? (i := 58) rfl)) (by decide) (rm_minJ l Z a0 hw rem per h111) ⟨rfl, rfl⟩ pd_0 rfl (argsL := [(.long rem), (.long per)]) (rest := []) rfl rfl d6_167 (Nat.le_of_ble_eq_true rfl) (Nat.le_of_ble_eq_true rfl) (by first | exact hc0 | exact hc1) (by first | exact hs0 | exact hs1) (pc' := 170) rfl (fun T113 X113 e113 => ?_)
              refine ow_lstore C X113 d6_170 (Ls' := #[.val (.ref o), .val (.long t), .second, .val (.long N), .second, .val (.long rem), .second, .val (.int (0 : Int32)), .val (.long (own_minJ rem per)), .second]) (by rcases o8 with ⟨rfl, rfl⟩ | ⟨_, rfl, rfl⟩ <;> rfl) (pc' := 172) rfl ?_
              refine ow_aloadN C X113 d6_172 rfl rfl (pc' := 173) rfl ?_
              refine ow_lload C X113 d6_173 rfl (pc' := 175) rfl ?_
              refine ow_putF C X113 e113 (hw _ (List.mem_of_getElem? (i := 59) rfl)) F111_8 E111_0 (Or.inl (hw _ (List.mem_of_getElem? (i := 60) rfl))) (hw _ (List.mem_of_getElem? (i := 7) rfl)) (ty := .long) (by decide) rfl rfl d6_175 (pc' := 178) rfl (fun T114 h114 X114 e114 W114 => ?_)
              have E114_0 := E111_0.wr W114
              have F114_1 := F111_1.other W114 (Or.inr (slot_ne (Or.inl (hw _ (List.mem_of_getElem? (i := 17) rfl))) (Or.inl (hw _ (List.mem_of_getElem? (i := 60) rfl))) (by decide) (t := (.array .long)) (t' := .long) (by decide) (by decide)))
              have F114_2 := F111_2.other W114 (Or.inr (slot_ne (Or.inl (hw _ (List.mem_of_getElem? (i := 19) rfl))) (Or.inl (hw _ (List.mem_of_getElem? (i := 60) rfl))) (by decide) (t := .int) (t' := .long) (by decide) (by decide)))
              have F114_3 := F111_3.other W114 (Or.inr (slot_ne (Or.inr (hw _ (List.mem_of_getElem? (i := 29) rfl))) (Or.inl (hw _ (List.mem_of_getElem? (i := 60) rfl))) (by decide) (t := .long) (t' := .long) (by decide) (by decide)))
              have F114_4 := F111_4.other W114 (Or.inr (slot_ne (Or.inr (hw _ (List.mem_of_getElem? (i := 31) rfl))) (Or.inl (hw _ (List.mem_of_getElem? (i := 60) rfl))) (by decide) (t := .int) (t' := .long) (by decide) (by decide)))
              have F114_5 := F111_5.other W114 (Or.inr (slot_ne (Or.inl (hw _ (List.mem_of_getElem? (i := 38) rfl))) (Or.inl (hw _ (List.mem_of_getElem? (i := 60) rfl))) (by decide) (t := .int) (t' := .long) (by decide) (by decide)))
              have F114_6 := F111_6.other W114 (Or.inr (slot_ne (Or.inl (hw _ (List.mem_of_getElem? (i := 55) rfl))) (Or.inl (hw _ (List.mem_of_getElem? (i := 60) rfl))) (by decide) (t := .int) (t' := .long) (by decide) (by decide)))
              have F114_7 := F111_7.other W114 (Or.inr (slot_ne (Or.inl (hw _ (List.mem_of_getElem? (i := 81) rfl))) (Or.inl (hw _ (List.mem_of_getElem? (i := 60) rfl))) (by decide) (t := .long) (t' := .long) (by decide) (by decide)))
              have F114_8 := F111_8.same W114
              have F114_9 := F111_9.other W114 (Or.inr (slot_ne (Or.inl (hw _ (List.mem_of_getElem? (i := 62) rfl))) (Or.inl (hw _ (List.mem_of_getElem? (i := 60) rfl))) (by decide) (t := .long) (t' := .long) (by decide) (by decide)))
              have A114_qg109 := A111_qg109.other W114 (Ne.symm nqg109)
              have N114 := Fr.snoc X114 N111 gog109
              refine ow_aloadN C X114 d6_178 rfl rfl (pc' := 179) rfl ?_
              refine ow_lloadN C X114 d6_179 rfl (pc' := 180) rfl ?_
              refine ow_putF C X114 e114 (hw _ (List.mem_of_getElem? (i := 61) rfl)) F114_9 E114_0 (Or.inl (hw _ (List.mem_of_getElem? (i := 62) rfl))) (hw _ (List.mem_of_getElem? (i := 7) rfl)) (ty := .long) (by decide) rfl rfl d6_180 (pc' := 183) rfl (fun T115 h115 X115 e115 W115 => ?_)
              have E115_0 := E114_0.wr W115
              have F115_1 := F114_1.other W115 (Or.inr (slot_ne (Or.inl (hw _ (List.mem_of_getElem? (i := 17) rfl))) (Or.inl (hw _ (List.mem_of_getElem? (i := 62) rfl))) (by decide) (t := (.array .long)) (t' := .long) (by decide) (by decide)))
              have F115_2 := F114_2.other W115 (Or.inr (slot_ne (Or.inl (hw _ (List.mem_of_getElem? (i := 19) rfl))) (Or.inl (hw _ (List.mem_of_getElem? (i := 62) rfl))) (by decide) (t := .int) (t' := .long) (by decide) (by decide)))
              have F115_3 := F114_3.other W115 (Or.inr (slot_ne (Or.inr (hw _ (List.mem_of_getElem? (i := 29) rfl))) (Or.inl (hw _ (List.mem_of_getElem? (i := 62) rfl))) (by decide) (t := .long) (t' := .long) (by decide) (by decide)))
              have F115_4 := F114_4.other W115 (Or.inr (slot_ne (Or.inr (hw _ (List.mem_of_getElem? (i := 31) rfl))) (Or.inl (hw _ (List.mem_of_getElem? (i := 62) rfl))) (by decide) (t := .int) (t' := .long) (by decide) (by decide)))
              have F115_5 := F114_5.other W115 (Or.inr (slot_ne (Or.inl (hw _ (List.mem_of_getElem? (i := 38) rfl))) (Or.inl (hw _ (List.mem_of_getElem? (i := 62) rfl))) (by decide) (t := .int) (t' := .long) (by decide) (by decide)))
              have F115_6 := F114_6.other W115 (Or.inr (slot_ne (Or.inl (hw _ (List.mem_of_getElem? (i := 55) rfl))) (Or.inl (hw _ (List.mem_of_getElem? (i := 62) rfl))) (by decide) (t := .int) (t' := .long) (by decide) (by decide)))
              have F115_7 := F114_7.other W115 (Or.inr (slot_ne (Or.inl (hw _ (List.mem_of_getElem? (i := 81) rfl))) (Or.inl (hw _ (List.mem_of_getElem? (i := 62) rfl))) (by decide) (t := .long) (t' := .long) (by decide) (by decide)))
              have F115_8 := F114_8.other W115 (Or.inr (slot_ne (Or.inl (hw _ (List.mem_of_getElem? (i := 60) rfl))) (Or.inl (hw _ (List.mem_of_getElem? (i := 62) rfl))) (by decide) (t := .long) (t' := .long) (by decide) (by decide)))
              have F115_9 := F114_9.same W115
              have A115_qg109 := A114_qg109.other W115 (Ne.symm nqg109)
              have N115 := Fr.snoc X115 N114 gog109
              refine ow_lload C X115 d6_183 rfl (pc' := 185) rfl ?_
              refine ow_lload C X115 d6_185 rfl (pc' := 187) rfl ?_
              refine ow_lsub C X115 d6_187 (pc' := 188) rfl ?_
              refine ow_lstore C X115 d6_188 (Ls' := #[.val (.ref o), .val (.long t), .second, .val (.long N), .second, .val (.long (rem - (own_minJ rem per))), .second, .val (.int (0 : Int32)), .val (.long (own_minJ rem per)), .second]) rfl (pc' := 190) rfl ?_
              refine ow_goto C X115 d6_190 (pcT := 3) (by decide) (by decide) ?_
              have g1 := own_nn_gt hnm
              have g2 := own_nn_le n ms
              have hlt := (own_newI (per := per) (own_posI b7) hP).2
              exact ih (rem - (own_minJ rem per)) qg109 (own_nn n ms) (fun j => (if j < n then (if j = v then nt else (f j)) else 0)) (((v + 1) + 1)) t (own_minJ rem per) (-1 : Int32) pf (cc + 1) (ss + own_nn n ms) T115 _ _ _ _ _ (by omega) (Jvm.RoadKit.One.val rfl) (Or.inr ⟨_, rfl, rfl⟩) ⟨E115_0, F115_1, F115_2, F115_3, F115_4, F115_5, F115_6, F115_7, F115_8, F115_9, A115_qg109, gog109, gqg109, nqg109⟩ (J.full hP b7 b26 (by omega) (by omega) UU (fun j hj => own_Tnewg (by omega) hj)) N115 X115 e115
          · refine ow_iconst (1 : Int32) C X69 d6_29 (by decide) (pc' := 30) rfl ?_
            refine ow_goto C X69 d6_30 (pcT := 34) (by decide) (by decide) ?_
            refine ow_istore C X69 d6_34 (Ls' := #[.val (.ref o), .val (.long t), .second, .val (.long N), .second, .val (.long rem), .second, .val (.int (1 : Int32)), x8, x9]) (XS.store1 rfl o7 rfl) (pc' := 36) rfl ?_
            refine ow_iload C X69 d6_36 rfl (pc' := 38) rfl ?_
            refine ow_if_eq C X69 d6_38 (pcT := 80) (pc' := 41) (by decide) (by decide) rfl (fun bq => absurd bq (by decide)) (fun _ => ?_)
            refine ow_aloadN C X69 d6_41 rfl rfl (pc' := 42) rfl ?_
            refine ow_getF C X69 e69 (hw _ (List.mem_of_getElem? (i := 18) rfl)) Fp d6_42 (pc' := 45) rfl (fun T70 X70 e70 => ?_)
            refine ow_if_ge C X70 d6_45 (pcT := 80) (pc' := 48) (by decide) (by decide) rfl (fun bq => absurd (by decide) bq) (fun _ => ?_)
            refine ow_lloadN C X70 d6_48 rfl (pc' := 49) rfl ?_
            refine ow_aloadN C X70 d6_49 rfl rfl (pc' := 50) rfl ?_
            refine ow_getF C X70 e70 (hw _ (List.mem_of_getElem? (i := 61) rfl)) Ft d6_50 (pc' := 53) rfl (fun T71 X71 e71 => ?_)
            refine ow_lsub C X71 d6_53 (pc' := 54) rfl ?_
            refine ow_ldc2 C X71 (hw _ (List.mem_of_getElem? (i := 79) rfl)) d6_54 (pc' := 57) rfl ?_
            refine ow_lcmp C X71 d6_57 (pc' := 58) rfl ?_
            refine ow_lif_le C X71 d6_58 (pcT := 80) (pc' := 61) (by decide) (by decide) rfl (fun b58 => ?_) (fun b58 => ?_)
            · refine ow_iload C X71 d6_80 rfl (pc' := 82) rfl ?_
              refine ow_if_eq C X71 d6_82 (pcT := 115) (pc' := 85) (by decide) (by decide) rfl (fun bq => absurd bq (by decide)) (fun _ => ?_)
              refine ow_lload C X71 d6_85 rfl (pc' := 87) rfl ?_
              refine ow_aloadN C X71 d6_87 rfl rfl (pc' := 88) rfl ?_
              refine ow_getF C X71 e71 (hw _ (List.mem_of_getElem? (i := 28) rfl)) Fe d6_88 (pc' := 91) rfl (fun T96 X96 e96 => ?_)
              refine ow_aloadN C X96 d6_91 rfl rfl (pc' := 92) rfl ?_
              refine ow_getF C X96 e96 (hw _ (List.mem_of_getElem? (i := 59) rfl)) Ff d6_92 (pc' := 95) rfl (fun T97 X97 e97 => ?_)
              refine ow_lsub C X97 d6_95 (pc' := 96) rfl ?_
              refine ow_callSP C X97 e97 (hw _ (List.mem_of_getElem? (i := 56) rfl)) (hw _ (List.mem_of_getElem? (i := 57) rfl)) (hw _ (List.mem_of_getElem? (i := 26) rfl)) (hw _ (List.mem_of_getElem? (i := 58) rfl)) (by decide) (rm_minJ l Z a0 hw rem (per - nf) hz) ⟨rfl, rfl⟩ pd_0 rfl (argsL := [(.long rem), (.long (per - nf))]) (rest := []) rfl rfl d6_96 (Nat.le_of_ble_eq_true rfl) (Nat.le_of_ble_eq_true rfl) (by first | exact hc0 | exact hc1) (by first | exact hs0 | exact hs1) (pc' := 99) rfl (fun T98 X98 e98 => ?_)
              refine ow_lstore C X98 d6_99 (Ls' := #[.val (.ref o), .val (.long t), .second, .val (.long N), .second, .val (.long rem), .second, .val (.int (1 : Int32)), .val (.long (own_minJ rem (per - nf))), .second]) (by rcases o8 with ⟨rfl, rfl⟩ | ⟨_, rfl, rfl⟩ <;> rfl) (pc' := 101) rfl ?_
              refine ow_aloadN C X98 d6_101 rfl rfl (pc' := 102) rfl ?_
              refine ow_dup C X98 d6_102 rfl (pc' := 103) rfl ?_
              refine ow_getF C X98 e98 (hw _ (List.mem_of_getElem? (i := 59) rfl)) Ff d6_103 (pc' := 106) rfl (fun T99 X99 e99 => ?_)
              refine ow_lload C X99 d6_106 rfl (pc' := 108) rfl ?_
              refine ow_ladd C X99 d6_108 (pc' := 109) rfl ?_
              refine ow_putF C X99 e99 (hw _ (List.mem_of_getElem? (i := 59) rfl)) Ff E (Or.inl (hw _ (List.mem_of_getElem? (i := 60) rfl))) (hw _ (List.mem_of_getElem? (i := 7) rfl)) (ty := .long) (by decide) rfl rfl d6_109 (pc' := 112) rfl (fun T100 h100 X100 e100 W100 => ?_)
              have E100_0 := E.wr W100
              have F100_1 := Fs.other W100 (Or.inr (slot_ne (Or.inl (hw _ (List.mem_of_getElem? (i := 17) rfl))) (Or.inl (hw _ (List.mem_of_getElem? (i := 60) rfl))) (by decide) (t := (.array .long)) (t' := .long) (by decide) (by decide)))
              have F100_2 := Fp.other W100 (Or.inr (slot_ne (Or.inl (hw _ (List.mem_of_getElem? (i := 19) rfl))) (Or.inl (hw _ (List.mem_of_getElem? (i := 60) rfl))) (by decide) (t := .int) (t' := .long) (by decide) (by decide)))
              have F100_3 := Fe.other W100 (Or.inr (slot_ne (Or.inr (hw _ (List.mem_of_getElem? (i := 29) rfl))) (Or.inl (hw _ (List.mem_of_getElem? (i := 60) rfl))) (by decide) (t := .long) (t' := .long) (by decide) (by decide)))
              have F100_4 := Fm.other W100 (Or.inr (slot_ne (Or.inr (hw _ (List.mem_of_getElem? (i := 31) rfl))) (Or.inl (hw _ (List.mem_of_getElem? (i := 60) rfl))) (by decide) (t := .int) (t' := .long) (by decide) (by decide)))
              have F100_5 := Fu.other W100 (Or.inr (slot_ne (Or.inl (hw _ (List.mem_of_getElem? (i := 38) rfl))) (Or.inl (hw _ (List.mem_of_getElem? (i := 60) rfl))) (by decide) (t := .int) (t' := .long) (by decide) (by decide)))
              have F100_6 := Fo.other W100 (Or.inr (slot_ne (Or.inl (hw _ (List.mem_of_getElem? (i := 55) rfl))) (Or.inl (hw _ (List.mem_of_getElem? (i := 60) rfl))) (by decide) (t := .int) (t' := .long) (by decide) (by decide)))
              have F100_7 := Fq.other W100 (Or.inr (slot_ne (Or.inl (hw _ (List.mem_of_getElem? (i := 81) rfl))) (Or.inl (hw _ (List.mem_of_getElem? (i := 60) rfl))) (by decide) (t := .long) (t' := .long) (by decide) (by decide)))
              have F100_8 := Ff.same W100
              have F100_9 := Ft.other W100 (Or.inr (slot_ne (Or.inl (hw _ (List.mem_of_getElem? (i := 62) rfl))) (Or.inl (hw _ (List.mem_of_getElem? (i := 60) rfl))) (by decide) (t := .long) (t' := .long) (by decide) (by decide)))
              have A100_q := A.other W100 (Ne.symm nq)
              have N100 := Fr.snoc X100 Nz go
              refine ow_goto C X100 d6_112 (pcT := 178) (by decide) (by decide) ?_
              refine ow_aloadN C X100 d6_178 rfl rfl (pc' := 179) rfl ?_
              refine ow_lloadN C X100 d6_179 rfl (pc' := 180) rfl ?_
              refine ow_putF C X100 e100 (hw _ (List.mem_of_getElem? (i := 61) rfl)) F100_9 E100_0 (Or.inl (hw _ (List.mem_of_getElem? (i := 62) rfl))) (hw _ (List.mem_of_getElem? (i := 7) rfl)) (ty := .long) (by decide) rfl rfl d6_180 (pc' := 183) rfl (fun T101 h101 X101 e101 W101 => ?_)
              have E101_0 := E100_0.wr W101
              have F101_1 := F100_1.other W101 (Or.inr (slot_ne (Or.inl (hw _ (List.mem_of_getElem? (i := 17) rfl))) (Or.inl (hw _ (List.mem_of_getElem? (i := 62) rfl))) (by decide) (t := (.array .long)) (t' := .long) (by decide) (by decide)))
              have F101_2 := F100_2.other W101 (Or.inr (slot_ne (Or.inl (hw _ (List.mem_of_getElem? (i := 19) rfl))) (Or.inl (hw _ (List.mem_of_getElem? (i := 62) rfl))) (by decide) (t := .int) (t' := .long) (by decide) (by decide)))
              have F101_3 := F100_3.other W101 (Or.inr (slot_ne (Or.inr (hw _ (List.mem_of_getElem? (i := 29) rfl))) (Or.inl (hw _ (List.mem_of_getElem? (i := 62) rfl))) (by decide) (t := .long) (t' := .long) (by decide) (by decide)))
              have F101_4 := F100_4.other W101 (Or.inr (slot_ne (Or.inr (hw _ (List.mem_of_getElem? (i := 31) rfl))) (Or.inl (hw _ (List.mem_of_getElem? (i := 62) rfl))) (by decide) (t := .int) (t' := .long) (by decide) (by decide)))
              have F101_5 := F100_5.other W101 (Or.inr (slot_ne (Or.inl (hw _ (List.mem_of_getElem? (i := 38) rfl))) (Or.inl (hw _ (List.mem_of_getElem? (i := 62) rfl))) (by decide) (t := .int) (t' := .long) (by decide) (by decide)))
              have F101_6 := F100_6.other W101 (Or.inr (slot_ne (Or.inl (hw _ (List.mem_of_getElem? (i := 55) rfl))) (Or.inl (hw _ (List.mem_of_getElem? (i := 62) rfl))) (by decide) (t := .int) (t' := .long) (by decide) (by decide)))
              have F101_7 := F100_7.other W101 (Or.inr (slot_ne (Or.inl (hw _ (List.mem_of_getElem? (i := 81) rfl))) (Or.inl (hw _ (List.mem_of_getElem? (i := 62) rfl))) (by decide) (t := .long) (t' := .long) (by decide) (by decide)))
              have F101_8 := F100_8.other W101 (Or.inr (slot_ne (Or.inl (hw _ (List.mem_of_getElem? (i := 60) rfl))) (Or.inl (hw _ (List.mem_of_getElem? (i := 62) rfl))) (by decide) (t := .long) (t' := .long) (by decide) (by decide)))
              have F101_9 := F100_9.same W101
              have A101_q := A100_q.other W101 (Ne.symm nq)
              have N101 := Fr.snoc X101 N100 go
              refine ow_lload C X101 d6_183 rfl (pc' := 185) rfl ?_
              refine ow_lload C X101 d6_185 rfl (pc' := 187) rfl ?_
              refine ow_lsub C X101 d6_187 (pc' := 188) rfl ?_
              refine ow_lstore C X101 d6_188 (Ls' := #[.val (.ref o), .val (.long t), .second, .val (.long N), .second, .val (.long (rem - (own_minJ rem (per - nf)))), .second, .val (.int (1 : Int32)), .val (.long (own_minJ rem (per - nf))), .second]) rfl (pc' := 190) rfl ?_
              refine ow_goto C X101 d6_190 (pcT := 3) (by decide) (by decide) ?_
              have hlt := (own_fillI (per := per) (nf := nf) (own_posI b7) (by have := L.1.2.2.1 (Nat.succ_pos v); omega) (own_ltI.mp b26)).2
              exact ih (rem - (own_minJ rem (per - nf))) q n (fun j => (f j)) ((v + 1)) t (nf + (own_minJ rem (per - nf))) (-1 : Int32) pf cc ss T101 _ _ _ _ _ (by omega) (Jvm.RoadKit.One.val rfl) (Or.inr ⟨_, rfl, rfl⟩) ⟨E101_0, F101_1, F101_2, F101_3, F101_4, F101_5, F101_6, F101_7, F101_8, F101_9, A101_q, go, gq, nq⟩ (J.fill hP b7 b26) N101 X101 e101
            · refine ow_aloadN C X71 d6_61 rfl rfl (pc' := 62) rfl ?_
              refine ow_aloadN C X71 d6_62 rfl rfl (pc' := 63) rfl ?_
              refine ow_callR C X71 e71 (hw _ (List.mem_of_getElem? (i := 63) rfl)) (hw _ (List.mem_of_getElem? (i := 64) rfl)) (hw _ (List.mem_of_getElem? (i := 65) rfl)) (hw _ (List.mem_of_getElem? (i := 7) rfl)) (hw _ (List.mem_of_getElem? (i := 8) rfl)) (hw _ (List.mem_of_getElem? (i := 66) rfl)) (by decide) E (rm_newest l Z a0 hw o q n f v nt nf (-1 : Int32) pf per ms hz n0 hv hn ⟨E, Fs, Fp, Fe, Fm, Fu, Fo, Fq, Ff, Ft, A, go, gq, nq⟩) pd_4 rfl (argsL := []) (rest := [(.ref o)]) rfl rfl d6_63 (Nat.le_of_ble_eq_true rfl) (Nat.le_of_ble_eq_true rfl) (by first | exact hc0 | exact hc1) (by first | exact hs0 | exact hs1) (pc' := 66) rfl (fun T72 v72 L72 X72 Q72 => ?_)
              obtain ⟨rfl, rfl, e72⟩ := Q72
              rw [List.append_nil] at X72
              show OwF p e below _ T72 (mkF m 66 #[.val (.ref o), .val (.long t), .second, .val (.long N), .second, .val (.long rem), .second, .val (.int (1 : Int32)), x8, x9] [(.int (Int32.ofNat v)), (.ref o)])
              refine ow_putF C X72 e72 (hw _ (List.mem_of_getElem? (i := 18) rfl)) Fp E (Or.inl (hw _ (List.mem_of_getElem? (i := 19) rfl))) (hw _ (List.mem_of_getElem? (i := 7) rfl)) (ty := .int) (by decide) rfl rfl d6_66 (pc' := 69) rfl (fun T73 h73 X73 e73 W73 => ?_)
              have E73_0 := E.wr W73
              have F73_1 := Fs.other W73 (Or.inr (slot_ne (Or.inl (hw _ (List.mem_of_getElem? (i := 17) rfl))) (Or.inl (hw _ (List.mem_of_getElem? (i := 19) rfl))) (by decide) (t := (.array .long)) (t' := .int) (by decide) (by decide)))
              have F73_2 := Fp.same W73
              have F73_3 := Fe.other W73 (Or.inr (slot_ne (Or.inr (hw _ (List.mem_of_getElem? (i := 29) rfl))) (Or.inl (hw _ (List.mem_of_getElem? (i := 19) rfl))) (by decide) (t := .long) (t' := .int) (by decide) (by decide)))
              have F73_4 := Fm.other W73 (Or.inr (slot_ne (Or.inr (hw _ (List.mem_of_getElem? (i := 31) rfl))) (Or.inl (hw _ (List.mem_of_getElem? (i := 19) rfl))) (by decide) (t := .int) (t' := .int) (by decide) (by decide)))
              have F73_5 := Fu.other W73 (Or.inr (slot_ne (Or.inl (hw _ (List.mem_of_getElem? (i := 38) rfl))) (Or.inl (hw _ (List.mem_of_getElem? (i := 19) rfl))) (by decide) (t := .int) (t' := .int) (by decide) (by decide)))
              have F73_6 := Fo.other W73 (Or.inr (slot_ne (Or.inl (hw _ (List.mem_of_getElem? (i := 55) rfl))) (Or.inl (hw _ (List.mem_of_getElem? (i := 19) rfl))) (by decide) (t := .int) (t' := .int) (by decide) (by decide)))
              have F73_7 := Fq.other W73 (Or.inr (slot_ne (Or.inl (hw _ (List.mem_of_getElem? (i := 81) rfl))) (Or.inl (hw _ (List.mem_of_getElem? (i := 19) rfl))) (by decide) (t := .long) (t' := .int) (by decide) (by decide)))
              have F73_8 := Ff.other W73 (Or.inr (slot_ne (Or.inl (hw _ (List.mem_of_getElem? (i := 60) rfl))) (Or.inl (hw _ (List.mem_of_getElem? (i := 19) rfl))) (by decide) (t := .long) (t' := .int) (by decide) (by decide)))
              have F73_9 := Ft.other W73 (Or.inr (slot_ne (Or.inl (hw _ (List.mem_of_getElem? (i := 62) rfl))) (Or.inl (hw _ (List.mem_of_getElem? (i := 19) rfl))) (by decide) (t := .long) (t' := .int) (by decide) (by decide)))
              have A73_q := A.other W73 (Ne.symm nq)
              have N73 := Fr.snoc X73 Nz go
              refine ow_aloadN C X73 d6_69 rfl rfl (pc' := 70) rfl ?_
              refine ow_aloadN C X73 d6_70 rfl rfl (pc' := 71) rfl ?_
              refine ow_getF C X73 e73 (hw _ (List.mem_of_getElem? (i := 59) rfl)) F73_8 d6_71 (pc' := 74) rfl (fun T74 X74 e74 => ?_)
              refine ow_putF C X74 e74 (hw _ (List.mem_of_getElem? (i := 80) rfl)) F73_7 E73_0 (Or.inl (hw _ (List.mem_of_getElem? (i := 81) rfl))) (hw _ (List.mem_of_getElem? (i := 7) rfl)) (ty := .long) (by decide) rfl rfl d6_74 (pc' := 77) rfl (fun T75 h75 X75 e75 W75 => ?_)
              have E75_0 := E73_0.wr W75
              have F75_1 := F73_1.other W75 (Or.inr (slot_ne (Or.inl (hw _ (List.mem_of_getElem? (i := 17) rfl))) (Or.inl (hw _ (List.mem_of_getElem? (i := 81) rfl))) (by decide) (t := (.array .long)) (t' := .long) (by decide) (by decide)))
              have F75_2 := F73_2.other W75 (Or.inr (slot_ne (Or.inl (hw _ (List.mem_of_getElem? (i := 19) rfl))) (Or.inl (hw _ (List.mem_of_getElem? (i := 81) rfl))) (by decide) (t := .int) (t' := .long) (by decide) (by decide)))
              have F75_3 := F73_3.other W75 (Or.inr (slot_ne (Or.inr (hw _ (List.mem_of_getElem? (i := 29) rfl))) (Or.inl (hw _ (List.mem_of_getElem? (i := 81) rfl))) (by decide) (t := .long) (t' := .long) (by decide) (by decide)))
              have F75_4 := F73_4.other W75 (Or.inr (slot_ne (Or.inr (hw _ (List.mem_of_getElem? (i := 31) rfl))) (Or.inl (hw _ (List.mem_of_getElem? (i := 81) rfl))) (by decide) (t := .int) (t' := .long) (by decide) (by decide)))
              have F75_5 := F73_5.other W75 (Or.inr (slot_ne (Or.inl (hw _ (List.mem_of_getElem? (i := 38) rfl))) (Or.inl (hw _ (List.mem_of_getElem? (i := 81) rfl))) (by decide) (t := .int) (t' := .long) (by decide) (by decide)))
              have F75_6 := F73_6.other W75 (Or.inr (slot_ne (Or.inl (hw _ (List.mem_of_getElem? (i := 55) rfl))) (Or.inl (hw _ (List.mem_of_getElem? (i := 81) rfl))) (by decide) (t := .int) (t' := .long) (by decide) (by decide)))
              have F75_7 := F73_7.same W75
              have F75_8 := F73_8.other W75 (Or.inr (slot_ne (Or.inl (hw _ (List.mem_of_getElem? (i := 60) rfl))) (Or.inl (hw _ (List.mem_of_getElem? (i := 81) rfl))) (by decide) (t := .long) (t' := .long) (by decide) (by decide)))
              have F75_9 := F73_9.other W75 (Or.inr (slot_ne (Or.inl (hw _ (List.mem_of_getElem? (i := 62) rfl))) (Or.inl (hw _ (List.mem_of_getElem? (i := 81) rfl))) (by decide) (t := .long) (t' := .long) (by decide) (by decide)))
              have A75_q := A73_q.other W75 (Ne.symm nq)
              have N75 := Fr.snoc X75 N73 go
              refine ow_iconst (0 : Int32) C X75 d6_77 (by decide) (pc' := 78) rfl ?_
              refine ow_istore C X75 d6_78 (Ls' := #[.val (.ref o), .val (.long t), .second, .val (.long N), .second, .val (.long rem), .second, .val (.int (0 : Int32)), x8, x9]) rfl (pc' := 80) rfl ?_
              refine ow_iload C X75 d6_80 rfl (pc' := 82) rfl ?_
              refine ow_if_eq C X75 d6_82 (pcT := 115) (pc' := 85) (by decide) (by decide) rfl (fun _ => ?_) (fun bq => absurd (by decide) bq)
              refine ow_aloadN C X75 d6_115 rfl rfl (pc' := 116) rfl ?_
              refine ow_getF C X75 e75 (hw _ (List.mem_of_getElem? (i := 37) rfl)) F75_5 d6_116 (pc' := 119) rfl (fun T76 X76 e76 => ?_)
              refine ow_if_le C X76 d6_119 (pcT := 135) (pc' := 122) (by decide) (by decide) rfl (fun bq => absurd (own_up (Nat.succ_pos v) (by omega)) bq) (fun _ => ?_)
              refine ow_aloadN C X76 d6_122 rfl rfl (pc' := 123) rfl ?_
              refine ow_getF C X76 e76 (hw _ (List.mem_of_getElem? (i := 16) rfl)) F75_1 d6_123 (pc' := 126) rfl (fun T77 X77 e77 => ?_)
              refine ow_aloadN C X77 d6_126 rfl rfl (pc' := 127) rfl ?_
              refine ow_callR C X77 e77 (hw _ (List.mem_of_getElem? (i := 63) rfl)) (hw _ (List.mem_of_getElem? (i := 64) rfl)) (hw _ (List.mem_of_getElem? (i := 65) rfl)) (hw _ (List.mem_of_getElem? (i := 7) rfl)) (hw _ (List.mem_of_getElem? (i := 8) rfl)) (hw _ (List.mem_of_getElem? (i := 66) rfl)) (by decide) E75_0 (rm_newest l Z a0 hw o q n f v nt nf (Int32.ofNat v) nf per ms h75 n0 hv hn ⟨E75_0, F75_1, F75_2, F75_3, F75_4, F75_5, F75_6, F75_7, F75_8, F75_9, A75_q, go, gq, nq⟩) pd_4 rfl (argsL := []) (rest := [(.ref q)]) rfl rfl d6_127 (Nat.le_of_ble_eq_true rfl) (Nat.le_of_ble_eq_true rfl) (by first | exact hc0 | exact hc1) (by first | exact hs0 | exact hs1) (pc' := 130) rfl (fun T78 v78 L78 X78 Q78 => ?_)
              obtain ⟨rfl, rfl, e78⟩ := Q78
              rw [List.append_nil] at X78
              show OwF p e below _ T78 (mkF m 130 #[.val (.ref o), .val (.long t), .second, .val (.long N), .second, .val (.long rem), .second, .val (.int (0 : Int32)), x8, x9] [(.int (Int32.ofNat v)), (.ref q)])
              refine ow_aloadN C X78 d6_130 rfl rfl (pc' := 131) rfl ?_
              refine ow_getF C X78 e78 (hw _ (List.mem_of_getElem? (i := 61) rfl)) F75_9 d6_131 (pc' := 134) rfl (fun T79 X79 e79 => ?_)
              refine ow_lastore (i := v) C X79 e79 A75_q (own_ix0 (by omega)) (own_ixN (by omega)) (by omega) d6_134 (pc' := 135) rfl (fun T80 h80 X80 e80 W80 => ?_)
              have E80_0 := E75_0.wr W80
              have F80_1 := F75_1.other W80 (Or.inl nq)
              have F80_2 := F75_2.other W80 (Or.inl nq)
              have F80_3 := F75_3.other W80 (Or.inl nq)
              have F80_4 := F75_4.other W80 (Or.inl nq)
              have F80_5 := F75_5.other W80 (Or.inl nq)
              have F80_6 := F75_6.other W80 (Or.inl nq)
              have F80_7 := F75_7.other W80 (Or.inl nq)
              have F80_8 := F75_8.other W80 (Or.inl nq)
              have F80_9 := F75_9.other W80 (Or.inl nq)
              have A80 : OwA Z h80 q .long n (fun j => .long (if j = v then nt else (f j))) := (A75_q.set W80).congr (fun j _ => by (try dsimp only); split <;> rfl)
              have N80 := Fr.snoc X80 N75 gq
              refine ow_aloadN C X80 d6_135 rfl rfl (pc' := 136) rfl ?_
              refine ow_getF C X80 e80 (hw _ (List.mem_of_getElem? (i := 37) rfl)) F80_5 d6_136 (pc' := 139) rfl (fun T81 X81 e81 => ?_)
              refine ow_aloadN C X81 d6_139 rfl rfl (pc' := 140) rfl ?_
              refine ow_getF C X81 e81 (hw _ (List.mem_of_getElem? (i := 16) rfl)) F80_1 d6_140 (pc' := 143) rfl (fun T82 X82 e82 => ?_)
              refine ow_arraylength C X82 e82 A80 (z := (Int32.ofNat n)) rfl d6_143 (pc' := 144) rfl ?_
              refine ow_icmp_ne C X82 d6_144 (pcT := 151) (pc' := 147) (by decide) (by decide) rfl (fun b144 => ?_) (fun b144 => ?_)
              · refine ow_aloadN C X82 d6_151 rfl rfl (pc' := 152) rfl ?_
                refine ow_dup C X82 d6_152 rfl (pc' := 153) rfl ?_
                refine ow_getF C X82 e82 (hw _ (List.mem_of_getElem? (i := 37) rfl)) F80_5 d6_153 (pc' := 156) rfl (fun T90 X90 e90 => ?_)
                refine ow_iconst (1 : Int32) C X90 d6_156 (by decide) (pc' := 157) rfl ?_
                refine ow_iadd C X90 d6_157 (pc' := 158) rfl ?_
                rw [own_inc ((v + 1))]
                refine ow_putF C X90 e90 (hw _ (List.mem_of_getElem? (i := 37) rfl)) F80_5 E80_0 (Or.inl (hw _ (List.mem_of_getElem? (i := 38) rfl))) (hw _ (List.mem_of_getElem? (i := 7) rfl)) (ty := .int) (by decide) rfl rfl d6_158 (pc' := 161) rfl (fun T91 h91 X91 e91 W91 => ?_)
                have E91_0 := E80_0.wr W91
                have F91_1 := F80_1.other W91 (Or.inr (slot_ne (Or.inl (hw _ (List.mem_of_getElem? (i := 17) rfl))) (Or.inl (hw _ (List.mem_of_getElem? (i := 38) rfl))) (by decide) (t := (.array .long)) (t' := .int) (by decide) (by decide)))
                have F91_2 := F80_2.other W91 (Or.inr (slot_ne (Or.inl (hw _ (List.mem_of_getElem? (i := 19) rfl))) (Or.inl (hw _ (List.mem_of_getElem? (i := 38) rfl))) (by decide) (t := .int) (t' := .int) (by decide) (by decide)))
                have F91_3 := F80_3.other W91 (Or.inr (slot_ne (Or.inr (hw _ (List.mem_of_getElem? (i := 29) rfl))) (Or.inl (hw _ (List.mem_of_getElem? (i := 38) rfl))) (by decide) (t := .long) (t' := .int) (by decide) (by decide)))
                have F91_4 := F80_4.other W91 (Or.inr (slot_ne (Or.inr (hw _ (List.mem_of_getElem? (i := 31) rfl))) (Or.inl (hw _ (List.mem_of_getElem? (i := 38) rfl))) (by decide) (t := .int) (t' := .int) (by decide) (by decide)))
                have F91_5 := F80_5.same W91
                have F91_6 := F80_6.other W91 (Or.inr (slot_ne (Or.inl (hw _ (List.mem_of_getElem? (i := 55) rfl))) (Or.inl (hw _ (List.mem_of_getElem? (i := 38) rfl))) (by decide) (t := .int) (t' := .int) (by decide) (by decide)))
                have F91_7 := F80_7.other W91 (Or.inr (slot_ne (Or.inl (hw _ (List.mem_of_getElem? (i := 81) rfl))) (Or.inl (hw _ (List.mem_of_getElem? (i := 38) rfl))) (by decide) (t := .long) (t' := .int) (by decide) (by decide)))
                have F91_8 := F80_8.other W91 (Or.inr (slot_ne (Or.inl (hw _ (List.mem_of_getElem? (i := 60) rfl))) (Or.inl (hw _ (List.mem_of_getElem? (i := 38) rfl))) (by decide) (t := .long) (t' := .int) (by decide) (by decide)))
                have F91_9 := F80_9.other W91 (Or.inr (slot_ne (Or.inl (hw _ (List.mem_of_getElem? (i := 62) rfl))) (Or.inl (hw _ (List.mem_of_getElem? (i := 38) rfl))) (by decide) (t := .long) (t' := .int) (by decide) (by decide)))
                have A91_q := A80.other W91 (Ne.symm nq)
                have N91 := Fr.snoc X91 N80 go
                refine ow_lload C X91 d6_161 rfl (pc' := 163) rfl ?_
                refine ow_aloadN C X91 d6_163 rfl rfl (pc' := 164) rfl ?_
                refine ow_getF C X91 e91 (hw _ (List.mem_of_getElem? (i := 28) rfl)) F91_3 d6_164 (pc' := 167) rfl (fun T92 X92 e92 => ?_)
                refine ow_callSP C X92 e92 (hw _ (List.mem_of_getElem? (i := 56) rfl)) (hw _ (List.mem_of_getElem? (i := 57) rfl)) (hw _ (List.mem_of_getElem? (i := 26) rfl)) (hw _ (List.mem_of_getElem? (i := 58) rfl)) (by decide) (rm_minJ l Z a0 hw rem per h91) ⟨rfl, rfl⟩ pd_0 rfl (argsL := [(.long rem), (.long per)]) (rest := []) rfl rfl d6_167 (Nat.le_of_ble_eq_true rfl) (Nat.le_of_ble_eq_true rfl) (by first | exact hc0 | exact hc1) (by first | exact hs0 | exact hs1) (pc' := 170) rfl (fun T93 X93 e93 => ?_)
                refine ow_lstore C X93 d6_170 (Ls' := #[.val (.ref o), .val (.long t), .second, .val (.long N), .second, .val (.long rem), .second, .val (.int (0 : Int32)), .val (.long (own_minJ rem per)), .second]) (by rcases o8 with ⟨rfl, rfl⟩ | ⟨_, rfl, rfl⟩ <;> rfl) (pc' := 172) rfl ?_
                refine ow_aloadN C X93 d6_172 rfl rfl (pc' := 173) rfl ?_
                refine ow_lload C X93 d6_173 rfl (pc' := 175) rfl ?_
                refine ow_putF C X93 e93 (hw _ (List.mem_of_getElem? (i := 59) rfl)) F91_8 E91_0 (Or.inl (hw _ (List.mem_of_getElem? (i := 60) rfl))) (hw _ (List.mem_of_getElem? (i := 7) rfl)) (ty := .long) (by decide) rfl rfl d6_175 (pc' := 178) rfl (fun T94 h94 X94 e94 W94 => ?_)
                have E94_0 := E91_0.wr W94
                have F94_1 := F91_1.other W94 (Or.inr (slot_ne (Or.inl (hw _ (List.mem_of_getElem? (i := 17) rfl))) (Or.inl (hw _ (List.mem_of_getElem? (i := 60) rfl))) (by decide) (t := (.array .long)) (t' := .long) (by decide) (by decide)))
                have F94_2 := F91_2.other W94 (Or.inr (slot_ne (Or.inl (hw _ (List.mem_of_getElem? (i := 19) rfl))) (Or.inl (hw _ (List.mem_of_getElem? (i := 60) rfl))) (by decide) (t := .int) (t' := .long) (by decide) (by decide)))
                have F94_3 := F91_3.other W94 (Or.inr (slot_ne (Or.inr (hw _ (List.mem_of_getElem? (i := 29) rfl))) (Or.inl (hw _ (List.mem_of_getElem? (i := 60) rfl))) (by decide) (t := .long) (t' := .long) (by decide) (by decide)))
                have F94_4 := F91_4.other W94 (Or.inr (slot_ne (Or.inr (hw _ (List.mem_of_getElem? (i := 31) rfl))) (Or.inl (hw _ (List.mem_of_getElem? (i := 60) rfl))) (by decide) (t := .int) (t' := .long) (by decide) (by decide)))
                have F94_5 := F91_5.other W94 (Or.inr (slot_ne (Or.inl (hw _ (List.mem_of_getElem? (i := 38) rfl))) (Or.inl (hw _ (List.mem_of_getElem? (i := 60) rfl))) (by decide) (t := .int) (t' := .long) (by decide) (by decide)))
                have F94_6 := F91_6.other W94 (Or.inr (slot_ne (Or.inl (hw _ (List.mem_of_getElem? (i := 55) rfl))) (Or.inl (hw _ (List.mem_of_getElem? (i := 60) rfl))) (by decide) (t := .int) (t' := .long) (by decide) (by decide)))
                have F94_7 := F91_7.other W94 (Or.inr (slot_ne (Or.inl (hw _ (List.mem_of_getElem? (i := 81) rfl))) (Or.inl (hw _ (List.mem_of_getElem? (i := 60) rfl))) (by decide) (t := .long) (t' := .long) (by decide) (by decide)))
                have F94_8 := F91_8.same W94
                have F94_9 := F91_9.other W94 (Or.inr (slot_ne (Or.inl (hw _ (List.mem_of_getElem? (i := 62) rfl))) (Or.inl (hw _ (List.mem_of_getElem? (i := 60) rfl))) (by decide) (t := .long) (t' := .long) (by decide) (by decide)))
                have A94_q := A91_q.other W94 (Ne.symm nq)
                have N94 := Fr.snoc X94 N91 go
                refine ow_aloadN C X94 d6_178 rfl rfl (pc' := 179) rfl ?_
                refine ow_lloadN C X94 d6_179 rfl (pc' := 180) rfl ?_
                refine ow_putF C X94 e94 (hw _ (List.mem_of_getElem? (i := 61) rfl)) F94_9 E94_0 (Or.inl (hw _ (List.mem_of_getElem? (i := 62) rfl))) (hw _ (List.mem_of_getElem? (i := 7) rfl)) (ty := .long) (by decide) rfl rfl d6_180 (pc' := 183) rfl (fun T95 h95 X95 e95 W95 => ?_)
                have E95_0 := E94_0.wr W95
                have F95_1 := F94_1.other W95 (Or.inr (slot_ne (Or.inl (hw _ (List.mem_of_getElem? (i := 17) rfl))) (Or.inl (hw _ (List.mem_of_getElem? (i := 62) rfl))) (by decide) (t := (.array .long)) (t' := .long) (by decide) (by decide)))
                have F95_2 := F94_2.other W95 (Or.inr (slot_ne (Or.inl (hw _ (List.mem_of_getElem? (i := 19) rfl))) (Or.inl (hw _ (List.mem_of_getElem? (i := 62) rfl))) (by decide) (t := .int) (t' := .long) (by decide) (by decide)))
                have F95_3 := F94_3.other W95 (Or.inr (slot_ne (Or.inr (hw _ (List.mem_of_getElem? (i := 29) rfl))) (Or.inl (hw _ (List.mem_of_getElem? (i := 62) rfl))) (by decide) (t := .long) (t' := .long) (by decide) (by decide)))
                have F95_4 := F94_4.other W95 (Or.inr (slot_ne (Or.inr (hw _ (List.mem_of_getElem? (i := 31) rfl))) (Or.inl (hw _ (List.mem_of_getElem? (i := 62) rfl))) (by decide) (t := .int) (t' := .long) (by decide) (by decide)))
                have F95_5 := F94_5.other W95 (Or.inr (slot_ne (Or.inl (hw _ (List.mem_of_getElem? (i := 38) rfl))) (Or.inl (hw _ (List.mem_of_getElem? (i := 62) rfl))) (by decide) (t := .int) (t' := .long) (by decide) (by decide)))
                have F95_6 := F94_6.other W95 (Or.inr (slot_ne (Or.inl (hw _ (List.mem_of_getElem? (i := 55) rfl))) (Or.inl (hw _ (List.mem_of_getElem? (i := 62) rfl))) (by decide) (t := .int) (t' := .long) (by decide) (by decide)))
                have F95_7 := F94_7.other W95 (Or.inr (slot_ne (Or.inl (hw _ (List.mem_of_getElem? (i := 81) rfl))) (Or.inl (hw _ (List.mem_of_getElem? (i := 62) rfl))) (by decide) (t := .long) (t' := .long) (by decide) (by decide)))
                have F95_8 := F94_8.other W95 (Or.inr (slot_ne (Or.inl (hw _ (List.mem_of_getElem? (i := 60) rfl))) (Or.inl (hw _ (List.mem_of_getElem? (i := 62) rfl))) (by decide) (t := .long) (t' := .long) (by decide) (by decide)))
                have F95_9 := F94_9.same W95
                have A95_q := A94_q.other W95 (Ne.symm nq)
                have N95 := Fr.snoc X95 N94 go
                refine ow_lload C X95 d6_183 rfl (pc' := 185) rfl ?_
                refine ow_lload C X95 d6_185 rfl (pc' := 187) rfl ?_
                refine ow_lsub C X95 d6_187 (pc' := 188) rfl ?_
                refine ow_lstore C X95 d6_188 (Ls' := #[.val (.ref o), .val (.long t), .second, .val (.long N), .second, .val (.long (rem - (own_minJ rem per))), .second, .val (.int (0 : Int32)), .val (.long (own_minJ rem per)), .second]) rfl (pc' := 190) rfl ?_
                refine ow_goto C X95 d6_190 (pcT := 3) (by decide) (by decide) ?_
                have hne : (v + 1) ≠ n := fun w => b144 (by rw [w])
                have hlt := (own_newI (per := per) (own_posI b7) hP).2
                exact ih (rem - (own_minJ rem per)) q n (fun j => (if j = v then nt else (f j))) (((v + 1) + 1)) t (own_minJ rem per) (Int32.ofNat v) nf cc ss T95 _ _ _ _ _ (by omega) (Jvm.RoadKit.One.val rfl) (Or.inr ⟨_, rfl, rfl⟩) ⟨E95_0, F95_1, F95_2, F95_3, F95_4, F95_5, F95_6, F95_7, F95_8, F95_9, A95_q, go, gq, nq⟩ (J.part (by omega) hP b7 b26 (by omega) (by omega) J.1 (fun j hj => own_Tnew hj)) N95 X95 e95
              · refine ow_aloadN C X82 d6_147 rfl rfl (pc' := 148) rfl ?_
                have hun : n = (v + 1) := ((own_eqN (by omega) (by omega)).mp b144).symm
                have hnm : n < ms := by rw [hun]; exact J.room hP hLim hm2 hms b7 (Or.inr (Or.inr rfl))
                have UU := J.1.step hm2 hms hnm
                have hb1 := UU.bd hms
                have hc1 : cc + 1 ≤ 8 := by omega
                have hs1 : ss + own_nn n ms ≤ 903 - ts0 := by omega
                refine ow_callR C X82 e82 (hw _ (List.mem_of_getElem? (i := 44) rfl)) (hw _ (List.mem_of_getElem? (i := 45) rfl)) (hw _ (List.mem_of_getElem? (i := 46) rfl)) (hw _ (List.mem_of_getElem? (i := 7) rfl)) (hw _ (List.mem_of_getElem? (i := 8) rfl)) (hw _ (List.mem_of_getElem? (i := 47) rfl)) (by decide) E80_0 (rm_growK l Z a0 hw o q n (fun j => (if j = v then nt else (f j))) (v + 1) nt nf (Int32.ofNat v) nf per ms h80 n0 hun hnm (by omega) ⟨v, by omega, rfl⟩ ⟨E80_0, F80_1, F80_2, F80_3, F80_4, F80_5, F80_6, F80_7, F80_8, F80_9, A80, go, gq, nq⟩) pd_5 rfl (argsL := []) (rest := []) rfl rfl d6_148 (Nat.le_of_ble_eq_true rfl) (Nat.le_of_ble_eq_true rfl) (by first | exact hc0 | exact hc1) (by first | exact hs0 | exact hs1) (pc' := 151) rfl (fun T83 v83 L83 X83 Q83 => ?_)
                obtain ⟨rfl, N83, qg83, Rg83⟩ := Q83
                obtain ⟨Eg83, Fsg83, Fpg83, Feg83, Fmg83, Fug83, Fog83, Fqg83, Ffg83, Ftg83, Ag83, gog83, gqg83, nqg83⟩ := Rg83
                have Nn83 := Fr.app N80 N83
                show OwF p e below _ T83 (mkF m 151 #[.val (.ref o), .val (.long t), .second, .val (.long N), .second, .val (.long rem), .second, .val (.int (0 : Int32)), x8, x9] [])
                refine ow_aloadN C X83 d6_151 rfl rfl (pc' := 152) rfl ?_
                refine ow_dup C X83 d6_152 rfl (pc' := 153) rfl ?_
                refine ow_getF C X83 rfl (hw _ (List.mem_of_getElem? (i := 37) rfl)) Fug83 d6_153 (pc' := 156) rfl (fun T84 X84 e84 => ?_)
                refine ow_iconst (1 : Int32) C X84 d6_156 (by decide) (pc' := 157) rfl ?_
                refine ow_iadd C X84 d6_157 (pc' := 158) rfl ?_
                rw [own_inc ((v + 1))]
                refine ow_putF C X84 e84 (hw _ (List.mem_of_getElem? (i := 37) rfl)) Fug83 Eg83 (Or.inl (hw _ (List.mem_of_getElem? (i := 38) rfl))) (hw _ (List.mem_of_getElem? (i := 7) rfl)) (ty := .int) (by decide) rfl rfl d6_158 (pc' := 161) rfl (fun T85 h85 X85 e85 W85 => ?_)
                have E85_0 := Eg83.wr W85
                have F85_1 := Fsg83.other W85 (Or.inr (slot_ne (Or.inl (hw _ (List.mem_of_getElem? (i := 17) rfl))) (Or.inl (hw _ (List.mem_of_getElem? (i := 38) rfl))) (by decide) (t := (.array .long)) (t' := .int) (by decide) (by decide)))
                have F85_2 := Fpg83.other W85 (Or.inr (slot_ne (Or.inl (hw _ (List.mem_of_getElem? (i := 19) rfl))) (Or.inl (hw _ (List.mem_of_getElem? (i := 38) rfl))) (by decide) (t := .int) (t' := .int) (by decide) (by decide)))
                have F85_3 := Feg83.other W85 (Or.inr (slot_ne (Or.inr (hw _ (List.mem_of_getElem? (i := 29) rfl))) (Or.inl (hw _ (List.mem_of_getElem? (i := 38) rfl))) (by decide) (t := .long) (t' := .int) (by decide) (by decide)))
                have F85_4 := Fmg83.other W85 (Or.inr (slot_ne (Or.inr (hw _ (List.mem_of_getElem? (i := 31) rfl))) (Or.inl (hw _ (List.mem_of_getElem? (i := 38) rfl))) (by decide) (t := .int) (t' := .int) (by decide) (by decide)))
                have F85_5 := Fug83.same W85
                have F85_6 := Fog83.other W85 (Or.inr (slot_ne (Or.inl (hw _ (List.mem_of_getElem? (i := 55) rfl))) (Or.inl (hw _ (List.mem_of_getElem? (i := 38) rfl))) (by decide) (t := .int) (t' := .int) (by decide) (by decide)))
                have F85_7 := Fqg83.other W85 (Or.inr (slot_ne (Or.inl (hw _ (List.mem_of_getElem? (i := 81) rfl))) (Or.inl (hw _ (List.mem_of_getElem? (i := 38) rfl))) (by decide) (t := .long) (t' := .int) (by decide) (by decide)))
                have F85_8 := Ffg83.other W85 (Or.inr (slot_ne (Or.inl (hw _ (List.mem_of_getElem? (i := 60) rfl))) (Or.inl (hw _ (List.mem_of_getElem? (i := 38) rfl))) (by decide) (t := .long) (t' := .int) (by decide) (by decide)))
                have F85_9 := Ftg83.other W85 (Or.inr (slot_ne (Or.inl (hw _ (List.mem_of_getElem? (i := 62) rfl))) (Or.inl (hw _ (List.mem_of_getElem? (i := 38) rfl))) (by decide) (t := .long) (t' := .int) (by decide) (by decide)))
                have A85_qg83 := Ag83.other W85 (Ne.symm nqg83)
                have N85 := Fr.snoc X85 Nn83 gog83
                refine ow_lload C X85 d6_161 rfl (pc' := 163) rfl ?_
                refine ow_aloadN C X85 d6_163 rfl rfl (pc' := 164) rfl ?_
                refine ow_getF C X85 e85 (hw _ (List.mem_of_getElem? (i := 28) rfl)) F85_3 d6_164 (pc' := 167) rfl (fun T86 X86 e86 => ?_)
                refine ow_callSP C X86 e86 (hw _ (List.mem_of_getElem? (i := 56) rfl)) (hw _ (List.mem_of_getElem? (i := 57) rfl)) (hw _ (List.mem_of_getElem? (i := 26) rfl)) (hw _ (List.mem_of_getElem? (i := 58) rfl)) (by decide) (rm_minJ l Z a0 hw rem per h85) ⟨rfl, rfl⟩ pd_0 rfl (argsL := [(.long rem), (.long per)]) (rest := []) rfl rfl d6_167 (Nat.le_of_ble_eq_true rfl) (Nat.le_of_ble_eq_true rfl) (by first | exact hc0 | exact hc1) (by first | exact hs0 | exact hs1) (pc' := 170) rfl (fun T87 X87 e87 => ?_)
                refine ow_lstore C X87 d6_170 (Ls' := #[.val (.ref o), .val (.long t), .second, .val (.long N), .second, .val (.long rem), .second, .val (.int (0 : Int32)), .val (.long (own_minJ rem per)), .second]) (by rcases o8 with ⟨rfl, rfl⟩ | ⟨_, rfl, rfl⟩ <;> rfl) (pc' := 172) rfl ?_
                refine ow_aloadN C X87 d6_172 rfl rfl (pc' := 173) rfl ?_
                refine ow_lload C X87 d6_173 rfl (pc' := 175) rfl ?_
                refine ow_putF C X87 e87 (hw _ (List.mem_of_getElem? (i := 59) rfl)) F85_8 E85_0 (Or.inl (hw _ (List.mem_of_getElem? (i := 60) rfl))) (hw _ (List.mem_of_getElem? (i := 7) rfl)) (ty := .long) (by decide) rfl rfl d6_175 (pc' := 178) rfl (fun T88 h88 X88 e88 W88 => ?_)
                have E88_0 := E85_0.wr W88
                have F88_1 := F85_1.other W88 (Or.inr (slot_ne (Or.inl (hw _ (List.mem_of_getElem? (i := 17) rfl))) (Or.inl (hw _ (List.mem_of_getElem? (i := 60) rfl))) (by decide) (t := (.array .long)) (t' := .long) (by decide) (by decide)))
                have F88_2 := F85_2.other W88 (Or.inr (slot_ne (Or.inl (hw _ (List.mem_of_getElem? (i := 19) rfl))) (Or.inl (hw _ (List.mem_of_getElem? (i := 60) rfl))) (by decide) (t := .int) (t' := .long) (by decide) (by decide)))
                have F88_3 := F85_3.other W88 (Or.inr (slot_ne (Or.inr (hw _ (List.mem_of_getElem? (i := 29) rfl))) (Or.inl (hw _ (List.mem_of_getElem? (i := 60) rfl))) (by decide) (t := .long) (t' := .long) (by decide) (by decide)))
                have F88_4 := F85_4.other W88 (Or.inr (slot_ne (Or.inr (hw _ (List.mem_of_getElem? (i := 31) rfl))) (Or.inl (hw _ (List.mem_of_getElem? (i := 60) rfl))) (by decide) (t := .int) (t' := .long) (by decide) (by decide)))
                have F88_5 := F85_5.other W88 (Or.inr (slot_ne (Or.inl (hw _ (List.mem_of_getElem? (i := 38) rfl))) (Or.inl (hw _ (List.mem_of_getElem? (i := 60) rfl))) (by decide) (t := .int) (t' := .long) (by decide) (by decide)))
                have F88_6 := F85_6.other W88 (Or.inr (slot_ne (Or.inl (hw _ (List.mem_of_getElem? (i := 55) rfl))) (Or.inl (hw _ (List.mem_of_getElem? (i := 60) rfl))) (by decide) (t := .int) (t' := .long) (by decide) (by decide)))
                have F88_7 := F85_7.other W88 (Or.inr (slot_ne (Or.inl (hw _ (List.mem_of_getElem? (i := 81) rfl))) (Or.inl (hw _ (List.mem_of_getElem? (i := 60) rfl))) (by decide) (t := .long) (t' := .long) (by decide) (by decide)))
                have F88_8 := F85_8.same W88
                have F88_9 := F85_9.other W88 (Or.inr (slot_ne (Or.inl (hw _ (List.mem_of_getElem? (i := 62) rfl))) (Or.inl (hw _ (List.mem_of_getElem? (i := 60) rfl))) (by decide) (t := .long) (t' := .long) (by decide) (by decide)))
                have A88_qg83 := A85_qg83.other W88 (Ne.symm nqg83)
                have N88 := Fr.snoc X88 N85 gog83
                refine ow_aloadN C X88 d6_178 rfl rfl (pc' := 179) rfl ?_
                refine ow_lloadN C X88 d6_179 rfl (pc' := 180) rfl ?_
                refine ow_putF C X88 e88 (hw _ (List.mem_of_getElem? (i := 61) rfl)) F88_9 E88_0 (Or.inl (hw _ (List.mem_of_getElem? (i := 62) rfl))) (hw _ (List.mem_of_getElem? (i := 7) rfl)) (ty := .long) (by decide) rfl rfl d6_180 (pc' := 183) rfl (fun T89 h89 X89 e89 W89 => ?_)
                have E89_0 := E88_0.wr W89
                have F89_1 := F88_1.other W89 (Or.inr (slot_ne (Or.inl (hw _ (List.mem_of_getElem? (i := 17) rfl))) (Or.inl (hw _ (List.mem_of_getElem? (i := 62) rfl))) (by decide) (t := (.array .long)) (t' := .long) (by decide) (by decide)))
                have F89_2 := F88_2.other W89 (Or.inr (slot_ne (Or.inl (hw _ (List.mem_of_getElem? (i := 19) rfl))) (Or.inl (hw _ (List.mem_of_getElem? (i := 62) rfl))) (by decide) (t := .int) (t' := .long) (by decide) (by decide)))
                have F89_3 := F88_3.other W89 (Or.inr (slot_ne (Or.inr (hw _ (List.mem_of_getElem? (i := 29) rfl))) (Or.inl (hw _ (List.mem_of_getElem? (i := 62) rfl))) (by decide) (t := .long) (t' := .long) (by decide) (by decide)))
                have F89_4 := F88_4.other W89 (Or.inr (slot_ne (Or.inr (hw _ (List.mem_of_getElem? (i := 31) rfl))) (Or.inl (hw _ (List.mem_of_getElem? (i := 62) rfl))) (by decide) (t := .int) (t' := .long) (by decide) (by decide)))
                have F89_5 := F88_5.other W89 (Or.inr (slot_ne (Or.inl (hw _ (List.mem_of_getElem? (i := 38) rfl))) (Or.inl (hw _ (List.mem_of_getElem? (i := 62) rfl))) (by decide) (t := .int) (t' := .long) (by decide) (by decide)))
                have F89_6 := F88_6.other W89 (Or.inr (slot_ne (Or.inl (hw _ (List.mem_of_getElem? (i := 55) rfl))) (Or.inl (hw _ (List.mem_of_getElem? (i := 62) rfl))) (by decide) (t := .int) (t' := .long) (by decide) (by decide)))
                have F89_7 := F88_7.other W89 (Or.inr (slot_ne (Or.inl (hw _ (List.mem_of_getElem? (i := 81) rfl))) (Or.inl (hw _ (List.mem_of_getElem? (i := 62) rfl))) (by decide) (t := .long) (t' := .long) (by decide) (by decide)))
                have F89_8 := F88_8.other W89 (Or.inr (slot_ne (Or.inl (hw _ (List.mem_of_getElem? (i := 60) rfl))) (Or.inl (hw _ (List.mem_of_getElem? (i := 62) rfl))) (by decide) (t := .long) (t' := .long) (by decide) (by decide)))
                have F89_9 := F88_9.same W89
                have A89_qg83 := A88_qg83.other W89 (Ne.symm nqg83)
                have N89 := Fr.snoc X89 N88 gog83
                refine ow_lload C X89 d6_183 rfl (pc' := 185) rfl ?_
                refine ow_lload C X89 d6_185 rfl (pc' := 187) rfl ?_
                refine ow_lsub C X89 d6_187 (pc' := 188) rfl ?_
                refine ow_lstore C X89 d6_188 (Ls' := #[.val (.ref o), .val (.long t), .second, .val (.long N), .second, .val (.long (rem - (own_minJ rem per))), .second, .val (.int (0 : Int32)), .val (.long (own_minJ rem per)), .second]) rfl (pc' := 190) rfl ?_
                refine ow_goto C X89 d6_190 (pcT := 3) (by decide) (by decide) ?_
                have g1 := own_nn_gt hnm
                have g2 := own_nn_le n ms
                have hlt := (own_newI (per := per) (own_posI b7) hP).2
                exact ih (rem - (own_minJ rem per)) qg83 (own_nn n ms) (fun j => (if j < n then (if j = v then nt else (f j)) else 0)) (((v + 1) + 1)) t (own_minJ rem per) (Int32.ofNat v) nf (cc + 1) (ss + own_nn n ms) T89 _ _ _ _ _ (by omega) (Jvm.RoadKit.One.val rfl) (Or.inr ⟨_, rfl, rfl⟩) ⟨E89_0, F89_1, F89_2, F89_3, F89_4, F89_5, F89_6, F89_7, F89_8, F89_9, A89_qg83, gog83, gqg83, nqg83⟩ (J.part (by omega) hP b7 b26 (by omega) (by omega) UU (fun j hj => own_Tnewg (by omega) hj)) N89 X89 e89
      · obtain ⟨E, Fs, Fp, Fe, Fm, Fu, Fo, Fq, Ff, Ft, A, go, gq, nq⟩ := R
        refine ow_lload C Xz d6_3 rfl (pc' := 5) rfl ?_
        refine ow_lconst (0 : Int64) C Xz d6_5 (by decide) (pc' := 6) rfl ?_
        refine ow_lcmp C Xz d6_6 (pc' := 7) rfl ?_
        refine ow_lif_le C Xz d6_7 (pcT := 193) (pc' := 10) (by decide) (by decide) rfl (fun b7 => ?_) (fun b7 => ?_)
        · exact kN rem q n f (v + 1) nt nf (Int32.ofNat k) pf cc ss Tz _ _ _ _ _ b7 Rk J Nz Xz ez
        · refine ow_aloadN C Xz d6_10 rfl rfl (pc' := 11) rfl ?_
          refine ow_getF C Xz ez (hw _ (List.mem_of_getElem? (i := 37) rfl)) Fu d6_11 (pc' := 14) rfl (fun T122 X122 e122 => ?_)
          refine ow_if_le C X122 d6_14 (pcT := 33) (pc' := 17) (by decide) (by decide) rfl (fun bq => absurd (own_up (Nat.succ_pos v) (by omega)) bq) (fun _ => ?_)
          refine ow_aloadN C X122 d6_17 rfl rfl (pc' := 18) rfl ?_
          refine ow_getF C X122 e122 (hw _ (List.mem_of_getElem? (i := 59) rfl)) Ff d6_18 (pc' := 21) rfl (fun T123 X123 e123 => ?_)
          refine ow_aloadN C X123 d6_21 rfl rfl (pc' := 22) rfl ?_
          refine ow_getF C X123 e123 (hw _ (List.mem_of_getElem? (i := 28) rfl)) Fe d6_22 (pc' := 25) rfl (fun T124 X124 e124 => ?_)
          refine ow_lcmp C X124 d6_25 (pc' := 26) rfl ?_
          refine ow_lif_ge C X124 d6_26 (pcT := 33) (pc' := 29) (by decide) (by decide) rfl (fun b26 => ?_) (fun b26 => ?_)
          · refine ow_iconst (0 : Int32) C X124 d6_33 (by decide) (pc' := 34) rfl ?_
            refine ow_istore C X124 d6_34 (Ls' := #[.val (.ref o), .val (.long t), .second, .val (.long N), .second, .val (.long rem), .second, .val (.int (0 : Int32)), x8, x9]) (XS.store1 rfl o7 rfl) (pc' := 36) rfl ?_
            refine ow_iload C X124 d6_36 rfl (pc' := 38) rfl ?_
            refine ow_if_eq C X124 d6_38 (pcT := 80) (pc' := 41) (by decide) (by decide) rfl (fun _ => ?_) (fun bq => absurd (by decide) bq)
            refine ow_iload C X124 d6_80 rfl (pc' := 82) rfl ?_
            refine ow_if_eq C X124 d6_82 (pcT := 115) (pc' := 85) (by decide) (by decide) rfl (fun _ => ?_) (fun bq => absurd (by decide) bq)
            refine ow_aloadN C X124 d6_115 rfl rfl (pc' := 116) rfl ?_
            refine ow_getF C X124 e124 (hw _ (List.mem_of_getElem? (i := 37) rfl)) Fu d6_116 (pc' := 119) rfl (fun T132 X132 e132 => ?_)
            refine ow_if_le C X132 d6_119 (pcT := 135) (pc' := 122) (by decide) (by decide) rfl (fun bq => absurd (own_up (Nat.succ_pos v) (by omega)) bq) (fun _ => ?_)
            refine ow_aloadN C X132 d6_122 rfl rfl (pc' := 123) rfl ?_
            refine ow_getF C X132 e132 (hw _ (List.mem_of_getElem? (i := 16) rfl)) Fs d6_123 (pc' := 126) rfl (fun T133 X133 e133 => ?_)
            refine ow_aloadN C X133 d6_126 rfl rfl (pc' := 127) rfl ?_
            refine ow_callR C X133 e133 (hw _ (List.mem_of_getElem? (i := 63) rfl)) (hw _ (List.mem_of_getElem? (i := 64) rfl)) (hw _ (List.mem_of_getElem? (i := 65) rfl)) (hw _ (List.mem_of_getElem? (i := 7) rfl)) (hw _ (List.mem_of_getElem? (i := 8) rfl)) (hw _ (List.mem_of_getElem? (i := 66) rfl)) (by decide) E (rm_newest l Z a0 hw o q n f v nt nf (Int32.ofNat k) pf per ms hz n0 hv hn ⟨E, Fs, Fp, Fe, Fm, Fu, Fo, Fq, Ff, Ft, A, go, gq, nq⟩) pd_4 rfl (argsL := []) (rest := [(.ref q)]) rfl rfl d6_127 (Nat.le_of_ble_eq_true rfl) (Nat.le_of_ble_eq_true rfl) (by first | exact hc0 | exact hc1) (by first | exact hs0 | exact hs1) (pc' := 130) rfl (fun T134 v134 L134 X134 Q134 => ?_)
            obtain ⟨rfl, rfl, e134⟩ := Q134
            rw [List.append_nil] at X134
            show OwF p e below _ T134 (mkF m 130 #[.val (.ref o), .val (.long t), .second, .val (.long N), .second, .val (.long rem), .second, .val (.int (0 : Int32)), x8, x9] [(.int (Int32.ofNat v)), (.ref q)])
            refine ow_aloadN C X134 d6_130 rfl rfl (pc' := 131) rfl ?_
            refine ow_getF C X134 e134 (hw _ (List.mem_of_getElem? (i := 61) rfl)) Ft d6_131 (pc' := 134) rfl (fun T135 X135 e135 => ?_)
            refine ow_lastore (i := v) C X135 e135 A (own_ix0 (by omega)) (own_ixN (by omega)) (by omega) d6_134 (pc' := 135) rfl (fun T136 h136 X136 e136 W136 => ?_)
            have E136_0 := E.wr W136
            have F136_1 := Fs.other W136 (Or.inl nq)
            have F136_2 := Fp.other W136 (Or.inl nq)
            have F136_3 := Fe.other W136 (Or.inl nq)
            have F136_4 := Fm.other W136 (Or.inl nq)
            have F136_5 := Fu.other W136 (Or.inl nq)
            have F136_6 := Fo.other W136 (Or.inl nq)
            have F136_7 := Fq.other W136 (Or.inl nq)
            have F136_8 := Ff.other W136 (Or.inl nq)
            have F136_9 := Ft.other W136 (Or.inl nq)
            have A136 : OwA Z h136 q .long n (fun j => .long (if j = v then nt else (f j))) := (A.set W136).congr (fun j _ => by (try dsimp only); split <;> rfl)
            have N136 := Fr.snoc X136 Nz gq
            refine ow_aloadN C X136 d6_135 rfl rfl (pc' := 136) rfl ?_
            refine ow_getF C X136 e136 (hw _ (List.mem_of_getElem? (i := 37) rfl)) F136_5 d6_136 (pc' := 139) rfl (fun T137 X137 e137 => ?_)
            refine ow_aloadN C X137 d6_139 rfl rfl (pc' := 140) rfl ?_
            refine ow_getF C X137 e137 (hw _ (List.mem_of_getElem? (i := 16) rfl)) F136_1 d6_140 (pc' := 143) rfl (fun T138 X138 e138 => ?_)
            refine ow_arraylength C X138 e138 A136 (z := (Int32.ofNat n)) rfl d6_143 (pc' := 144) rfl ?_
            refine ow_icmp_ne C X138 d6_144 (pcT := 151) (pc' := 147) (by decide) (by decide) rfl (fun b144 => ?_) (fun b144 => ?_)
            · refine ow_aloadN C X138 d6_151 rfl rfl (pc' := 152) rfl ?_
              refine ow_dup C X138 d6_152 rfl (pc' := 153) rfl ?_
              refine ow_getF C X138 e138 (hw _ (List.mem_of_getElem? (i := 37) rfl)) F136_5 d6_153 (pc' := 156) rfl (fun T146 X146 e146 => ?_)
              refine ow_iconst (1 : Int32) C X146 d6_156 (by decide) (pc' := 157) rfl ?_
              refine ow_iadd C X146 d6_157 (pc' := 158) rfl ?_
              rw [own_inc ((v + 1))]
              refine ow_putF C X146 e146 (hw _ (List.mem_of_getElem? (i := 37) rfl)) F136_5 E136_0 (Or.inl (hw _ (List.mem_of_getElem? (i := 38) rfl))) (hw _ (List.mem_of_getElem? (i := 7) rfl)) (ty := .int) (by decide) rfl rfl d6_158 (pc' := 161) rfl (fun T147 h147 X147 e147 W147 => ?_)
              have E147_0 := E136_0.wr W147
              have F147_1 := F136_1.other W147 (Or.inr (slot_ne (Or.inl (hw _ (List.mem_of_getElem? (i := 17) rfl))) (Or.inl (hw _ (List.mem_of_getElem? (i := 38) rfl))) (by decide) (t := (.array .long)) (t' := .int) (by decide) (by decide)))
              have F147_2 := F136_2.other W147 (Or.inr (slot_ne (Or.inl (hw _ (List.mem_of_getElem? (i := 19) rfl))) (Or.inl (hw _ (List.mem_of_getElem? (i := 38) rfl))) (by decide) (t := .int) (t' := .int) (by decide) (by decide)))
              have F147_3 := F136_3.other W147 (Or.inr (slot_ne (Or.inr (hw _ (List.mem_of_getElem? (i := 29) rfl))) (Or.inl (hw _ (List.mem_of_getElem? (i := 38) rfl))) (by decide) (t := .long) (t' := .int) (by decide) (by decide)))
              have F147_4 := F136_4.other W147 (Or.inr (slot_ne (Or.inr (hw _ (List.mem_of_getElem? (i := 31) rfl))) (Or.inl (hw _ (List.mem_of_getElem? (i := 38) rfl))) (by decide) (t := .int) (t' := .int) (by decide) (by decide)))
              have F147_5 := F136_5.same W147
              have F147_6 := F136_6.other W147 (Or.inr (slot_ne (Or.inl (hw _ (List.mem_of_getElem? (i := 55) rfl))) (Or.inl (hw _ (List.mem_of_getElem? (i := 38) rfl))) (by decide) (t := .int) (t' := .int) (by decide) (by decide)))
              have F147_7 := F136_7.other W147 (Or.inr (slot_ne (Or.inl (hw _ (List.mem_of_getElem? (i := 81) rfl))) (Or.inl (hw _ (List.mem_of_getElem? (i := 38) rfl))) (by decide) (t := .long) (t' := .int) (by decide) (by decide)))
              have F147_8 := F136_8.other W147 (Or.inr (slot_ne (Or.inl (hw _ (List.mem_of_getElem? (i := 60) rfl))) (Or.inl (hw _ (List.mem_of_getElem? (i := 38) rfl))) (by decide) (t := .long) (t' := .int) (by decide) (by decide)))
              have F147_9 := F136_9.other W147 (Or.inr (slot_ne (Or.inl (hw _ (List.mem_of_getElem? (i := 62) rfl))) (Or.inl (hw _ (List.mem_of_getElem? (i := 38) rfl))) (by decide) (t := .long) (t' := .int) (by decide) (by decide)))
              have A147_q := A136.other W147 (Ne.symm nq)
              have N147 := Fr.snoc X147 N136 go
              refine ow_lload C X147 d6_161 rfl (pc' := 163) rfl ?_
              refine ow_aloadN C X147 d6_163 rfl rfl (pc' := 164) rfl ?_
              refine ow_getF C X147 e147 (hw _ (List.mem_of_getElem? (i := 28) rfl)) F147_3 d6_164 (pc' := 167) rfl (fun T148 X148 e148 => ?_)
              refine ow_callSP C X148 e148 (hw _ (List.mem_of_getElem? (i := 56) rfl)) (hw _ (List.mem_of_getElem? (i := 57) rfl)) (hw _ (List.mem_of_getElem? (i := 26) rfl)) (hw _ (List.mem_of_getElem? (i := 58) rfl)) (by decide) (rm_minJ l Z a0 hw rem per h147) ⟨rfl, rfl⟩ pd_0 rfl (argsL := [(.long rem), (.long per)]) (rest := []) rfl rfl d6_167 (Nat.le_of_ble_eq_true rfl) (Nat.le_of_ble_eq_true rfl) (by first | exact hc0 | exact hc1) (by first | exact hs0 | exact hs1) (pc' := 170) rfl (fun T149 X149 e149 => ?_)
              refine ow_lstore C X149 d6_170 (Ls' := #[.val (.ref o), .val (.long t), .second, .val (.long N), .second, .val (.long rem), .second, .val (.int (0 : Int32)), .val (.long (own_minJ rem per)), .second]) (by rcases o8 with ⟨rfl, rfl⟩ | ⟨_, rfl, rfl⟩ <;> rfl) (pc' := 172) rfl ?_
              refine ow_aloadN C X149 d6_172 rfl rfl (pc' := 173) rfl ?_
              refine ow_lload C X149 d6_173 rfl (pc' := 175) rfl ?_
              refine ow_putF C X149 e149 (hw _ (List.mem_of_getElem? (i := 59) rfl)) F147_8 E147_0 (Or.inl (hw _ (List.mem_of_getElem? (i := 60) rfl))) (hw _ (List.mem_of_getElem? (i := 7) rfl)) (ty := .long) (by decide) rfl rfl d6_175 (pc' := 178) rfl (fun T150 h150 X150 e150 W150 => ?_)
              have E150_0 := E147_0.wr W150
              have F150_1 := F147_1.other W150 (Or.inr (slot_ne (Or.inl (hw _ (List.mem_of_getElem? (i := 17) rfl))) (Or.inl (hw _ (List.mem_of_getElem? (i := 60) rfl))) (by decide) (t := (.array .long)) (t' := .long) (by decide) (by decide)))
              have F150_2 := F147_2.other W150 (Or.inr (slot_ne (Or.inl (hw _ (List.mem_of_getElem? (i := 19) rfl))) (Or.inl (hw _ (List.mem_of_getElem? (i := 60) rfl))) (by decide) (t := .int) (t' := .long) (by decide) (by decide)))
              have F150_3 := F147_3.other W150 (Or.inr (slot_ne (Or.inr (hw _ (List.mem_of_getElem? (i := 29) rfl))) (Or.inl (hw _ (List.mem_of_getElem? (i := 60) rfl))) (by decide) (t := .long) (t' := .long) (by decide) (by decide)))
              have F150_4 := F147_4.other W150 (Or.inr (slot_ne (Or.inr (hw _ (List.mem_of_getElem? (i := 31) rfl))) (Or.inl (hw _ (List.mem_of_getElem? (i := 60) rfl))) (by decide) (t := .int) (t' := .long) (by decide) (by decide)))
              have F150_5 := F147_5.other W150 (Or.inr (slot_ne (Or.inl (hw _ (List.mem_of_getElem? (i := 38) rfl))) (Or.inl (hw _ (List.mem_of_getElem? (i := 60) rfl))) (by decide) (t := .int) (t' := .long) (by decide) (by decide)))
              have F150_6 := F147_6.other W150 (Or.inr (slot_ne (Or.inl (hw _ (List.mem_of_getElem? (i := 55) rfl))) (Or.inl (hw _ (List.mem_of_getElem? (i := 60) rfl))) (by decide) (t := .int) (t' := .long) (by decide) (by decide)))
              have F150_7 := F147_7.other W150 (Or.inr (slot_ne (Or.inl (hw _ (List.mem_of_getElem? (i := 81) rfl))) (Or.inl (hw _ (List.mem_of_getElem? (i := 60) rfl))) (by decide) (t := .long) (t' := .long) (by decide) (by decide)))
              have F150_8 := F147_8.same W150
              have F150_9 := F147_9.other W150 (Or.inr (slot_ne (Or.inl (hw _ (List.mem_of_getElem? (i := 62) rfl))) (Or.inl (hw _ (List.mem_of_getElem? (i := 60) rfl))) (by decide) (t := .long) (t' := .long) (by decide) (by decide)))
              have A150_q := A147_q.other W150 (Ne.symm nq)
              have N150 := Fr.snoc X150 N147 go
              refine ow_aloadN C X150 d6_178 rfl rfl (pc' := 179) rfl ?_
              refine ow_lloadN C X150 d6_179 rfl (pc' := 180) rfl ?_
              refine ow_putF C X150 e150 (hw _ (List.mem_of_getElem? (i := 61) rfl)) F150_9 E150_0 (Or.inl (hw _ (List.mem_of_getElem? (i := 62) rfl))) (hw _ (List.mem_of_getElem? (i := 7) rfl)) (ty := .long) (by decide) rfl rfl d6_180 (pc' := 183) rfl (fun T151 h151 X151 e151 W151 => ?_)
              have E151_0 := E150_0.wr W151
              have F151_1 := F150_1.other W151 (Or.inr (slot_ne (Or.inl (hw _ (List.mem_of_getElem? (i := 17) rfl))) (Or.inl (hw _ (List.mem_of_getElem? (i := 62) rfl))) (by decide) (t := (.array .long)) (t' := .long) (by decide) (by decide)))
              have F151_2 := F150_2.other W151 (Or.inr (slot_ne (Or.inl (hw _ (List.mem_of_getElem? (i := 19) rfl))) (Or.inl (hw _ (List.mem_of_getElem? (i := 62) rfl))) (by decide) (t := .int) (t' := .long) (by decide) (by decide)))
              have F151_3 := F150_3.other W151 (Or.inr (slot_ne (Or.inr (hw _ (List.mem_of_getElem? (i := 29) rfl))) (Or.inl (hw _ (List.mem_of_getElem? (i := 62) rfl))) (by decide) (t := .long) (t' := .long) (by decide) (by decide)))
              have F151_4 := F150_4.other W151 (Or.inr (slot_ne (Or.inr (hw _ (List.mem_of_getElem? (i := 31) rfl))) (Or.inl (hw _ (List.mem_of_getElem? (i := 62) rfl))) (by decide) (t := .int) (t' := .long) (by decide) (by decide)))
              have F151_5 := F150_5.other W151 (Or.inr (slot_ne (Or.inl (hw _ (List.mem_of_getElem? (i := 38) rfl))) (Or.inl (hw _ (List.mem_of_getElem? (i := 62) rfl))) (by decide) (t := .int) (t' := .long) (by decide) (by decide)))
              have F151_6 := F150_6.other W151 (Or.inr (slot_ne (Or.inl (hw _ (List.mem_of_getElem? (i := 55) rfl))) (Or.inl (hw _ (List.mem_of_getElem? (i := 62) rfl))) (by decide) (t := .int) (t' := .long) (by decide) (by decide)))
              have F151_7 := F150_7.other W151 (Or.inr (slot_ne (Or.inl (hw _ (List.mem_of_getElem? (i := 81) rfl))) (Or.inl (hw _ (List.mem_of_getElem? (i := 62) rfl))) (by decide) (t := .long) (t' := .long) (by decide) (by decide)))
              have F151_8 := F150_8.other W151 (Or.inr (slot_ne (Or.inl (hw _ (List.mem_of_getElem? (i := 60) rfl))) (Or.inl (hw _ (List.mem_of_getElem? (i := 62) rfl))) (by decide) (t := .long) (t' := .long) (by decide) (by decide)))
              have F151_9 := F150_9.same W151
              have A151_q := A150_q.other W151 (Ne.symm nq)
              have N151 := Fr.snoc X151 N150 go
              refine ow_lload C X151 d6_183 rfl (pc' := 185) rfl ?_
              refine ow_lload C X151 d6_185 rfl (pc' := 187) rfl ?_
              refine ow_lsub C X151 d6_187 (pc' := 188) rfl ?_
              refine ow_lstore C X151 d6_188 (Ls' := #[.val (.ref o), .val (.long t), .second, .val (.long N), .second, .val (.long (rem - (own_minJ rem per))), .second, .val (.int (0 : Int32)), .val (.long (own_minJ rem per)), .second]) rfl (pc' := 190) rfl ?_
              refine ow_goto C X151 d6_190 (pcT := 3) (by decide) (by decide) ?_
              have hne : (v + 1) ≠ n := fun w => b144 (by rw [w])
              have hlt := (own_newI (per := per) (own_posI b7) hP).2
              exact ih (rem - (own_minJ rem per)) q n (fun j => (if j = v then nt else (f j))) (((v + 1) + 1)) t (own_minJ rem per) (Int32.ofNat k) pf cc ss T151 _ _ _ _ _ (by omega) (Jvm.RoadKit.One.val rfl) (Or.inr ⟨_, rfl, rfl⟩) ⟨E151_0, F151_1, F151_2, F151_3, F151_4, F151_5, F151_6, F151_7, F151_8, F151_9, A151_q, go, gq, nq⟩ (J.full hP b7 b26 (by omega) (by omega) J.1 (fun j hj => own_Tnew hj)) N151 X151 e151
            · refine ow_aloadN C X138 d6_147 rfl rfl (pc' := 148) rfl ?_
              have hun : n = (v + 1) := ((own_eqN (by omega) (by omega)).mp b144).symm
              have hnm : n < ms := by rw [hun]; exact J.room hP hLim hm2 hms b7 (Or.inr (Or.inl b26))
              have UU := J.1.step hm2 hms hnm
              have hb1 := UU.bd hms
              have hc1 : cc + 1 ≤ 8 := by omega
              have hs1 : ss + own_nn n ms ≤ 903 - ts0 := by omega
              refine ow_callR C X138 e138 (hw _ (List.mem_of_getElem? (i := 44) rfl)) (hw _ (List.mem_of_getElem? (i := 45) rfl)) (hw _ (List.mem_of_getElem? (i := 46) rfl)) (hw _ (List.mem_of_getElem? (i := 7) rfl)) (hw _ (List.mem_of_getElem? (i := 8) rfl)) (hw _ (List.mem_of_getElem? (i := 47) rfl)) (by decide) E136_0 (rm_growK l Z a0 hw o q n (fun j => (if j = v then nt else (f j))) (v + 1) nt nf (Int32.ofNat k) pf per ms h136 n0 hun hnm (by omega) ⟨k, by omega, rfl⟩ ⟨E136_0, F136_1, F136_2, F136_3, F136_4, F136_5, F136_6, F136_7, F136_8, F136_9, A136, go, gq, nq⟩) pd_5 rfl (argsL := []) (rest := []) rfl rfl d6_148 (Nat.le_of_ble_eq_true rfl) (Nat.le_of_ble_eq_true rfl) (by first | exact hc0 | exact hc1) (by first | exact hs0 | exact hs1) (pc' := 151) rfl (fun T139 v139 L139 X139 Q139 => ?_)
              obtain ⟨rfl, N139, qg139, Rg139⟩ := Q139
              obtain ⟨Eg139, Fsg139, Fpg139, Feg139, Fmg139, Fug139, Fog139, Fqg139, Ffg139, Ftg139, Ag139, gog139, gqg139, nqg139⟩ := Rg139
              have Nn139 := Fr.app N136 N139
              show OwF p e below _ T139 (mkF m 151 #[.val (.ref o), .val (.long t), .second, .val (.long N), .second, .val (.long rem), .second, .val (.int (0 : Int32)), x8, x9] [])
              refine ow_aloadN C X139 d6_151 rfl rfl (pc' := 152) rfl ?_
              refine ow_dup C X139 d6_152 rfl (pc' := 153) rfl ?_
              refine ow_getF C X139 rfl (hw _ (List.mem_of_getElem? (i := 37) rfl)) Fug139 d6_153 (pc' := 156) rfl (fun T140 X140 e140 => ?_)
              refine ow_iconst (1 : Int32) C X140 d6_156 (by decide) (pc' := 157) rfl ?_
              refine ow_iadd C X140 d6_157 (pc' := 158) rfl ?_
              rw [own_inc ((v + 1))]
              refine ow_putF C X140 e140 (hw _ (List.mem_of_getElem? (i := 37) rfl)) Fug139 Eg139 (Or.inl (hw _ (List.mem_of_getElem? (i := 38) rfl))) (hw _ (List.mem_of_getElem? (i := 7) rfl)) (ty := .int) (by decide) rfl rfl d6_158 (pc' := 161) rfl (fun T141 h141 X141 e141 W141 => ?_)
              have E141_0 := Eg139.wr W141
              have F141_1 := Fsg139.other W141 (Or.inr (slot_ne (Or.inl (hw _ (List.mem_of_getElem? (i := 17) rfl))) (Or.inl (hw _ (List.mem_of_getElem? (i := 38) rfl))) (by decide) (t := (.array .long)) (t' := .int) (by decide) (by decide)))
              have F141_2 := Fpg139.other W141 (Or.inr (slot_ne (Or.inl (hw _ (List.mem_of_getElem? (i := 19) rfl))) (Or.inl (hw _ (List.mem_of_getElem? (i := 38) rfl))) (by decide) (t := .int) (t' := .int) (by decide) (by decide)))
              have F141_3 := Feg139.other W141 (Or.inr (slot_ne (Or.inr (hw _ (List.mem_of_getElem? (i := 29) rfl))) (Or.inl (hw _ (List.mem_of_getElem? (i := 38) rfl))) (by decide) (t := .long) (t' := .int) (by decide) (by decide)))
              have F141_4 := Fmg139.other W141 (Or.inr (slot_ne (Or.inr (hw _ (List.mem_of_getElem? (i := 31) rfl))) (Or.inl (hw _ (List.mem_of_getElem? (i := 38) rfl))) (by decide) (t := .int) (t' := .int) (by decide) (by decide)))
              have F141_5 := Fug139.same W141
              have F141_6 := Fog139.other W141 (Or.inr (slot_ne (Or.inl (hw _ (List.mem_of_getElem? (i := 55) rfl))) (Or.inl (hw _ (List.mem_of_getElem? (i := 38) rfl))) (by decide) (t := .int) (t' := .int) (by decide) (by decide)))
              have F141_7 := Fqg139.other W141 (Or.inr (slot_ne (Or.inl (hw _ (List.mem_of_getElem? (i := 81) rfl))) (Or.inl (hw _ (List.mem_of_getElem? (i := 38) rfl))) (by decide) (t := .long) (t' := .int) (by decide) (by decide)))
              have F141_8 := Ffg139.other W141 (Or.inr (slot_ne (Or.inl (hw _ (List.mem_of_getElem? (i := 60) rfl))) (Or.inl (hw _ (List.mem_of_getElem? (i := 38) rfl))) (by decide) (t := .long) (t' := .int) (by decide) (by decide)))
              have F141_9 := Ftg139.other W141 (Or.inr (slot_ne (Or.inl (hw _ (List.mem_of_getElem? (i := 62) rfl))) (Or.inl (hw _ (List.mem_of_getElem? (i := 38) rfl))) (by decide) (t := .long) (t' := .int) (by decide) (by decide)))
              have A141_qg139 := Ag139.other W141 (Ne.symm nqg139)
              have N141 := Fr.snoc X141 Nn139 gog139
              refine ow_lload C X141 d6_161 rfl (pc' := 163) rfl ?_
              refine ow_aloadN C X141 d6_163 rfl rfl (pc' := 164) rfl ?_
              refine ow_getF C X141 e141 (hw _ (List.mem_of_getElem? (i := 28) rfl)) F141_3 d6_164 (pc' := 167) rfl (fun T142 X142 e142 => ?_)
              refine ow_callSP C X142 e142 (hw _ (List.mem_of_getElem? (i := 56) rfl)) (hw _ (List.mem_of_getElem? (i := 57) rfl)) (hw _ (List.mem_of_getElem? (i := 26) rfl)) (hw _ (List.mem_of_getElem? (i := 58) rfl)) (by decide) (rm_minJ l Z a0 hw rem per h141) ⟨rfl, rfl⟩ pd_0 rfl (argsL := [(.long rem), (.long per)]) (rest := []) rfl rfl d6_167 (Nat.le_of_ble_eq_true rfl) (Nat.le_of_ble_eq_true rfl) (by first | exact hc0 | exact hc1) (by first | exact hs0 | exact hs1) (pc' := 170) rfl (fun T143 X143 e143 => ?_)
              refine ow_lstore C X143 d6_170 (Ls' := #[.val (.ref o), .val (.long t), .second, .val (.long N), .second, .val (.long rem), .second, .val (.int (0 : Int32)), .val (.long (own_minJ rem per)), .second]) (by rcases o8 with ⟨rfl, rfl⟩ | ⟨_, rfl, rfl⟩ <;> rfl) (pc' := 172) rfl ?_
              refine ow_aloadN C X143 d6_172 rfl rfl (pc' := 173) rfl ?_
              refine ow_lload C X143 d6_173 rfl (pc' := 175) rfl ?_
              refine ow_putF C X143 e143 (hw _ (List.mem_of_getElem? (i := 59) rfl)) F141_8 E141_0 (Or.inl (hw _ (List.mem_of_getElem? (i := 60) rfl))) (hw _ (List.mem_of_getElem? (i := 7) rfl)) (ty := .long) (by decide) rfl rfl d6_175 (pc' := 178) rfl (fun T144 h144 X144 e144 W144 => ?_)
              have E144_0 := E141_0.wr W144
              have F144_1 := F141_1.other W144 (Or.inr (slot_ne (Or.inl (hw _ (List.mem_of_getElem? (i := 17) rfl))) (Or.inl (hw _ (List.mem_of_getElem? (i := 60) rfl))) (by decide) (t := (.array .long)) (t' := .long) (by decide) (by decide)))
              have F144_2 := F141_2.other W144 (Or.inr (slot_ne (Or.inl (hw _ (List.mem_of_getElem? (i := 19) rfl))) (Or.inl (hw _ (List.mem_of_getElem? (i := 60) rfl))) (by decide) (t := .int) (t' := .long) (by decide) (by decide)))
              have F144_3 := F141_3.other W144 (Or.inr (slot_ne (Or.inr (hw _ (List.mem_of_getElem? (i := 29) rfl))) (Or.inl (hw _ (List.mem_of_getElem? (i := 60) rfl))) (by decide) (t := .long) (t' := .long) (by decide) (by decide)))
              have F144_4 := F141_4.other W144 (Or.inr (slot_ne (Or.inr (hw _ (List.mem_of_getElem? (i := 31) rfl))) (Or.inl (hw _ (List.mem_of_getElem? (i := 60) rfl))) (by decide) (t := .int) (t' := .long) (by decide) (by decide)))
              have F144_5 := F141_5.other W144 (Or.inr (slot_ne (Or.inl (hw _ (List.mem_of_getElem? (i := 38) rfl))) (Or.inl (hw _ (List.mem_of_getElem? (i := 60) rfl))) (by decide) (t := .int) (t' := .long) (by decide) (by decide)))
              have F144_6 := F141_6.other W144 (Or.inr (slot_ne (Or.inl (hw _ (List.mem_of_getElem? (i := 55) rfl))) (Or.inl (hw _ (List.mem_of_getElem? (i := 60) rfl))) (by decide) (t := .int) (t' := .long) (by decide) (by decide)))
              have F144_7 := F141_7.other W144 (Or.inr (slot_ne (Or.inl (hw _ (List.mem_of_getElem? (i := 81) rfl))) (Or.inl (hw _ (List.mem_of_getElem? (i := 60) rfl))) (by decide) (t := .long) (t' := .long) (by decide) (by decide)))
              have F144_8 := F141_8.same W144
              have F144_9 := F141_9.other W144 (Or.inr (slot_ne (Or.inl (hw _ (List.mem_of_getElem? (i := 62) rfl))) (Or.inl (hw _ (List.mem_of_getElem? (i := 60) rfl))) (by decide) (t := .long) (t' := .long) (by decide) (by decide)))
              have A144_qg139 := A141_qg139.other W144 (Ne.symm nqg139)
              have N144 := Fr.snoc X144 N141 gog139
              refine ow_aloadN C X144 d6_178 rfl rfl (pc' := 179) rfl ?_
              refine ow_lloadN C X144 d6_179 rfl (pc' := 180) rfl ?_
              refine ow_putF C X144 e144 (hw _ (List.mem_of_getElem? (i := 61) rfl)) F144_9 E144_0 (Or.inl (hw _ (List.mem_of_getElem? (i := 62) rfl))) (hw _ (List.mem_of_getElem? (i := 7) rfl)) (ty := .long) (by decide) rfl rfl d6_180 (pc' := 183) rfl (fun T145 h145 X145 e145 W145 => ?_)
              have E145_0 := E144_0.wr W145
              have F145_1 := F144_1.other W145 (Or.inr (slot_ne (Or.inl (hw _ (List.mem_of_getElem? (i := 17) rfl))) (Or.inl (hw _ (List.mem_of_getElem? (i := 62) rfl))) (by decide) (t := (.array .long)) (t' := .long) (by decide) (by decide)))
              have F145_2 := F144_2.other W145 (Or.inr (slot_ne (Or.inl (hw _ (List.mem_of_getElem? (i := 19) rfl))) (Or.inl (hw _ (List.mem_of_getElem? (i := 62) rfl))) (by decide) (t := .int) (t' := .long) (by decide) (by decide)))
              have F145_3 := F144_3.other W145 (Or.inr (slot_ne (Or.inr (hw _ (List.mem_of_getElem? (i := 29) rfl))) (Or.inl (hw _ (List.mem_of_getElem? (i := 62) rfl))) (by decide) (t := .long) (t' := .long) (by decide) (by decide)))
              have F145_4 := F144_4.other W145 (Or.inr (slot_ne (Or.inr (hw _ (List.mem_of_getElem? (i := 31) rfl))) (Or.inl (hw _ (List.mem_of_getElem? (i := 62) rfl))) (by decide) (t := .int) (t' := .long) (by decide) (by decide)))
              have F145_5 := F144_5.other W145 (Or.inr (slot_ne (Or.inl (hw _ (List.mem_of_getElem? (i := 38) rfl))) (Or.inl (hw _ (List.mem_of_getElem? (i := 62) rfl))) (by decide) (t := .int) (t' := .long) (by decide) (by decide)))
              have F145_6 := F144_6.other W145 (Or.inr (slot_ne (Or.inl (hw _ (List.mem_of_getElem? (i := 55) rfl))) (Or.inl (hw _ (List.mem_of_getElem? (i := 62) rfl))) (by decide) (t := .int) (t' := .long) (by decide) (by decide)))
              have F145_7 := F144_7.other W145 (Or.inr (slot_ne (Or.inl (hw _ (List.mem_of_getElem? (i := 81) rfl))) (Or.inl (hw _ (List.mem_of_getElem? (i := 62) rfl))) (by decide) (t := .long) (t' := .long) (by decide) (by decide)))
              have F145_8 := F144_8.other W145 (Or.inr (slot_ne (Or.inl (hw _ (List.mem_of_getElem? (i := 60) rfl))) (Or.inl (hw _ (List.mem_of_getElem? (i := 62) rfl))) (by decide) (t := .long) (t' := .long) (by decide) (by decide)))
              have F145_9 := F144_9.same W145
              have A145_qg139 := A144_qg139.other W145 (Ne.symm nqg139)
              have N145 := Fr.snoc X145 N144 gog139
              refine ow_lload C X145 d6_183 rfl (pc' := 185) rfl ?_
              refine ow_lload C X145 d6_185 rfl (pc' := 187) rfl ?_
              refine ow_lsub C X145 d6_187 (pc' := 188) rfl ?_
              refine ow_lstore C X145 d6_188 (Ls' := #[.val (.ref o), .val (.long t), .second, .val (.long N), .second, .val (.long (rem - (own_minJ rem per))), .second, .val (.int (0 : Int32)), .val (.long (own_minJ rem per)), .second]) rfl (pc' := 190) rfl ?_
              refine ow_goto C X145 d6_190 (pcT := 3) (by decide) (by decide) ?_
              have g1 := own_nn_gt hnm
              have g2 := own_nn_le n ms
              have hlt := (own_newI (per := per) (own_posI b7) hP).2
              exact ih (rem - (own_minJ rem per)) qg139 (own_nn n ms) (fun j => (if j < n then (if j = v then nt else (f j)) else 0)) (((v + 1) + 1)) t (own_minJ rem per) (Int32.ofNat k) pf (cc + 1) (ss + own_nn n ms) T145 _ _ _ _ _ (by omega) (Jvm.RoadKit.One.val rfl) (Or.inr ⟨_, rfl, rfl⟩) ⟨E145_0, F145_1, F145_2, F145_3, F145_4, F145_5, F145_6, F145_7, F145_8, F145_9, A145_qg139, gog139, gqg139, nqg139⟩ (J.full hP b7 b26 (by omega) (by omega) UU (fun j hj => own_Tnewg (by omega) hj)) N145 X145 e145
          · refine ow_iconst (1 : Int32) C X124 d6_29 (by decide) (pc' := 30) rfl ?_
            refine ow_goto C X124 d6_30 (pcT := 34) (by decide) (by decide) ?_
            refine ow_istore C X124 d6_34 (Ls' := #[.val (.ref o), .val (.long t), .second, .val (.long N), .second, .val (.long rem), .second, .val (.int (1 : Int32)), x8, x9]) (XS.store1 rfl o7 rfl) (pc' := 36) rfl ?_
            refine ow_iload C X124 d6_36 rfl (pc' := 38) rfl ?_
            refine ow_if_eq C X124 d6_38 (pcT := 80) (pc' := 41) (by decide) (by decide) rfl (fun bq => absurd bq (by decide)) (fun _ => ?_)
            refine ow_aloadN C X124 d6_41 rfl rfl (pc' := 42) rfl ?_
            refine ow_getF C X124 e124 (hw _ (List.mem_of_getElem? (i := 18) rfl)) Fp d6_42 (pc' := 45) rfl (fun T125 X125 e125 => ?_)
            refine ow_if_ge C X125 d6_45 (pcT := 80) (pc' := 48) (by decide) (by decide) rfl (fun _ => ?_) (fun bq => absurd bq (own_nneg (by omega)))
            refine ow_iload C X125 d6_80 rfl (pc' := 82) rfl ?_
            refine ow_if_eq C X125 d6_82 (pcT := 115) (pc' := 85) (by decide) (by decide) rfl (fun bq => absurd bq (by decide)) (fun _ => ?_)
            refine ow_lload C X125 d6_85 rfl (pc' := 87) rfl ?_
            refine ow_aloadN C X125 d6_87 rfl rfl (pc' := 88) rfl ?_
            refine ow_getF C X125 e125 (hw _ (List.mem_of_getElem? (i := 28) rfl)) Fe d6_88 (pc' := 91) rfl (fun T126 X126 e126 => ?_)
            refine ow_aloadN C X126 d6_91 rfl rfl (pc' := 92) rfl ?_
            refine ow_getF C X126 e126 (hw _ (List.mem_of_getElem? (i := 59) rfl)) Ff d6_92 (pc' := 95) rfl (fun T127 X127 e127 => ?_)
            refine ow_lsub C X127 d6_95 (pc' := 96) rfl ?_
            refine ow_callSP C X127 e127 (hw _ (List.mem_of_getElem? (i := 56) rfl)) (hw _ (List.mem_of_getElem? (i := 57) rfl)) (hw _ (List.mem_of_getElem? (i := 26) rfl)) (hw _ (List.mem_of_getElem? (i := 58) rfl)) (by decide) (rm_minJ l Z a0 hw rem (per - nf) hz) ⟨rfl, rfl⟩ pd_0 rfl (argsL := [(.long rem), (.long (per - nf))]) (rest := []) rfl rfl d6_96 (Nat.le_of_ble_eq_true rfl) (Nat.le_of_ble_eq_true rfl) (by first | exact hc0 | exact hc1) (by first | exact hs0 | exact hs1) (pc' := 99) rfl (fun T128 X128 e128 => ?_)
            refine ow_lstore C X128 d6_99 (Ls' := #[.val (.ref o), .val (.long t), .second, .val (.long N), .second, .val (.long rem), .second, .val (.int (1 : Int32)), .val (.long (own_minJ rem (per - nf))), .second]) (by rcases o8 with ⟨rfl, rfl⟩ | ⟨_, rfl, rfl⟩ <;> rfl) (pc' := 101) rfl ?_
            refine ow_aloadN C X128 d6_101 rfl rfl (pc' := 102) rfl ?_
            refine ow_dup C X128 d6_102 rfl (pc' := 103) rfl ?_
            refine ow_getF C X128 e128 (hw _ (List.mem_of_getElem? (i := 59) rfl)) Ff d6_103 (pc' := 106) rfl (fun T129 X129 e129 => ?_)
            refine ow_lload C X129 d6_106 rfl (pc' := 108) rfl ?_
            refine ow_ladd C X129 d6_108 (pc' := 109) rfl ?_
            refine ow_putF C X129 e129 (hw _ (List.mem_of_getElem? (i := 59) rfl)) Ff E (Or.inl (hw _ (List.mem_of_getElem? (i := 60) rfl))) (hw _ (List.mem_of_getElem? (i := 7) rfl)) (ty := .long) (by decide) rfl rfl d6_109 (pc' := 112) rfl (fun T130 h130 X130 e130 W130 => ?_)
            have E130_0 := E.wr W130
            have F130_1 := Fs.other W130 (Or.inr (slot_ne (Or.inl (hw _ (List.mem_of_getElem? (i := 17) rfl))) (Or.inl (hw _ (List.mem_of_getElem? (i := 60) rfl))) (by decide) (t := (.array .long)) (t' := .long) (by decide) (by decide)))
            have F130_2 := Fp.other W130 (Or.inr (slot_ne (Or.inl (hw _ (List.mem_of_getElem? (i := 19) rfl))) (Or.inl (hw _ (List.mem_of_getElem? (i := 60) rfl))) (by decide) (t := .int) (t' := .long) (by decide) (by decide)))
            have F130_3 := Fe.other W130 (Or.inr (slot_ne (Or.inr (hw _ (List.mem_of_getElem? (i := 29) rfl))) (Or.inl (hw _ (List.mem_of_getElem? (i := 60) rfl))) (by decide) (t := .long) (t' := .long) (by decide) (by decide)))
            have F130_4 := Fm.other W130 (Or.inr (slot_ne (Or.inr (hw _ (List.mem_of_getElem? (i := 31) rfl))) (Or.inl (hw _ (List.mem_of_getElem? (i := 60) rfl))) (by decide) (t := .int) (t' := .long) (by decide) (by decide)))
            have F130_5 := Fu.other W130 (Or.inr (slot_ne (Or.inl (hw _ (List.mem_of_getElem? (i := 38) rfl))) (Or.inl (hw _ (List.mem_of_getElem? (i := 60) rfl))) (by decide) (t := .int) (t' := .long) (by decide) (by decide)))
            have F130_6 := Fo.other W130 (Or.inr (slot_ne (Or.inl (hw _ (List.mem_of_getElem? (i := 55) rfl))) (Or.inl (hw _ (List.mem_of_getElem? (i := 60) rfl))) (by decide) (t := .int) (t' := .long) (by decide) (by decide)))
            have F130_7 := Fq.other W130 (Or.inr (slot_ne (Or.inl (hw _ (List.mem_of_getElem? (i := 81) rfl))) (Or.inl (hw _ (List.mem_of_getElem? (i := 60) rfl))) (by decide) (t := .long) (t' := .long) (by decide) (by decide)))
            have F130_8 := Ff.same W130
            have F130_9 := Ft.other W130 (Or.inr (slot_ne (Or.inl (hw _ (List.mem_of_getElem? (i := 62) rfl))) (Or.inl (hw _ (List.mem_of_getElem? (i := 60) rfl))) (by decide) (t := .long) (t' := .long) (by decide) (by decide)))
            have A130_q := A.other W130 (Ne.symm nq)
            have N130 := Fr.snoc X130 Nz go
            refine ow_goto C X130 d6_112 (pcT := 178) (by decide) (by decide) ?_
            refine ow_aloadN C X130 d6_178 rfl rfl (pc' := 179) rfl ?_
            refine ow_lloadN C X130 d6_179 rfl (pc' := 180) rfl ?_
            refine ow_putF C X130 e130 (hw _ (List.mem_of_getElem? (i := 61) rfl)) F130_9 E130_0 (Or.inl (hw _ (List.mem_of_getElem? (i := 62) rfl))) (hw _ (List.mem_of_getElem? (i := 7) rfl)) (ty := .long) (by decide) rfl rfl d6_180 (pc' := 183) rfl (fun T131 h131 X131 e131 W131 => ?_)
            have E131_0 := E130_0.wr W131
            have F131_1 := F130_1.other W131 (Or.inr (slot_ne (Or.inl (hw _ (List.mem_of_getElem? (i := 17) rfl))) (Or.inl (hw _ (List.mem_of_getElem? (i := 62) rfl))) (by decide) (t := (.array .long)) (t' := .long) (by decide) (by decide)))
            have F131_2 := F130_2.other W131 (Or.inr (slot_ne (Or.inl (hw _ (List.mem_of_getElem? (i := 19) rfl))) (Or.inl (hw _ (List.mem_of_getElem? (i := 62) rfl))) (by decide) (t := .int) (t' := .long) (by decide) (by decide)))
            have F131_3 := F130_3.other W131 (Or.inr (slot_ne (Or.inr (hw _ (List.mem_of_getElem? (i := 29) rfl))) (Or.inl (hw _ (List.mem_of_getElem? (i := 62) rfl))) (by decide) (t := .long) (t' := .long) (by decide) (by decide)))
            have F131_4 := F130_4.other W131 (Or.inr (slot_ne (Or.inr (hw _ (List.mem_of_getElem? (i := 31) rfl))) (Or.inl (hw _ (List.mem_of_getElem? (i := 62) rfl))) (by decide) (t := .int) (t' := .long) (by decide) (by decide)))
            have F131_5 := F130_5.other W131 (Or.inr (slot_ne (Or.inl (hw _ (List.mem_of_getElem? (i := 38) rfl))) (Or.inl (hw _ (List.mem_of_getElem? (i := 62) rfl))) (by decide) (t := .int) (t' := .long) (by decide) (by decide)))
            have F131_6 := F130_6.other W131 (Or.inr (slot_ne (Or.inl (hw _ (List.mem_of_getElem? (i := 55) rfl))) (Or.inl (hw _ (List.mem_of_getElem? (i := 62) rfl))) (by decide) (t := .int) (t' := .long) (by decide) (by decide)))
            have F131_7 := F130_7.other W131 (Or.inr (slot_ne (Or.inl (hw _ (List.mem_of_getElem? (i := 81) rfl))) (Or.inl (hw _ (List.mem_of_getElem? (i := 62) rfl))) (by decide) (t := .long) (t' := .long) (by decide) (by decide)))
            have F131_8 := F130_8.other W131 (Or.inr (slot_ne (Or.inl (hw _ (List.mem_of_getElem? (i := 60) rfl))) (Or.inl (hw _ (List.mem_of_getElem? (i := 62) rfl))) (by decide) (t := .long) (t' := .long) (by decide) (by decide)))
            have F131_9 := F130_9.same W131
            have A131_q := A130_q.other W131 (Ne.symm nq)
            have N131 := Fr.snoc X131 N130 go
            refine ow_lload C X131 d6_183 rfl (pc' := 185) rfl ?_
            refine ow_lload C X131 d6_185 rfl (pc' := 187) rfl ?_
            refine ow_lsub C X131 d6_187 (pc' := 188) rfl ?_
            refine ow_lstore C X131 d6_188 (Ls' := #[.val (.ref o), .val (.long t), .second, .val (.long N), .second, .val (.long (rem - (own_minJ rem (per - nf)))), .second, .val (.int (1 : Int32)), .val (.long (own_minJ rem (per - nf))), .second]) rfl (pc' := 190) rfl ?_
            refine ow_goto C X131 d6_190 (pcT := 3) (by decide) (by decide) ?_
            have hlt := (own_fillI (per := per) (nf := nf) (own_posI b7) (by have := L.1.2.2.1 (Nat.succ_pos v); omega) (own_ltI.mp b26)).2
            exact ih (rem - (own_minJ rem (per - nf))) q n (fun j => (f j)) ((v + 1)) t (nf + (own_minJ rem (per - nf))) (Int32.ofNat k) pf cc ss T131 _ _ _ _ _ (by omega) (Jvm.RoadKit.One.val rfl) (Or.inr ⟨_, rfl, rfl⟩) ⟨E131_0, F131_1, F131_2, F131_3, F131_4, F131_5, F131_6, F131_7, F131_8, F131_9, A131_q, go, gq, nq⟩ (J.fill hP b7 b26) N131 X131 e131
/-- the partial slot's place when d slots have gone -/
def own_pd (pp : Int32) (p : Int) (d u : Nat) : Prop := (pp = -1 ∧ p < (d : Int)) ∨ ∃ k : Nat, pp = Int32.ofNat k ∧ p = (k : Int) ∧ d ≤ k ∧ k + 2 ≤ u
theorem own_pd0 {pp : Int32} {p : Int} {u : Nat} (h : own_pp pp p u) : own_pd pp p 0 u := by
  rcases h with ⟨h1, h2⟩ | ⟨k, h1, h2, h3⟩
  · exact Or.inl ⟨h1, by omega⟩
  · exact Or.inr ⟨k, h1, h2, Nat.zero_le _, h3⟩
theorem own_admI {per pf nf : Int64} {n ms u d : Nat} {pp : Int32} {p : Int} (V : OwV per.toInt n ms u nf.toInt pf.toInt p) (hd : own_pd pp p d u) (hdu : d ≤ u) (hms : ms ≤ 301) (hP : per.toInt ≤ 4611686018427387904) (hG : own_G per.toInt u nf.toInt pf.toInt p d ≤ 4611686018427387904) : (own_adm pp per pf (Int32.ofNat (u - d)) nf).toInt = own_G per.toInt u nf.toInt pf.toInt p d := by
  obtain ⟨v1, v2, v3, v4⟩ := V
  rcases Nat.lt_or_ge d u with w | w
  · obtain ⟨z, hz⟩ : ∃ z, u - d = z + 1 := ⟨u - d - 1, by omega⟩
    have hv := v3 (by omega)
    rw [own_Gp w] at hG ⊢
    have hzz : u - 1 - d = z := by omega
    rw [hzz] at hG ⊢
    rw [hz]
    unfold own_adm
    rw [if_neg (fun q => by have := (own_eqN (b := 0) (by omega) (by omega)).mp q; omega), own_dec z]
    have hU : (own_adm_j20 pp per pf (Int32.ofNat (z + 1)) nf).toInt = (if (d : Int) ≤ p then per.toInt - pf.toInt else 0) ∧ 0 ≤ (if (d : Int) ≤ p then per.toInt - pf.toInt else 0) ∧ (if (d : Int) ≤ p then per.toInt - pf.toInt else 0) < per.toInt := by
      unfold own_adm_j20
      rcases hd with ⟨h1, h2⟩ | ⟨k, h1, h2, h3, h4⟩
      · rw [h1, if_pos (by decide), if_neg (by omega)]
        exact ⟨by decide, by omega, by omega⟩
      · have h5 : 1 ≤ pf.toInt ∧ pf.toInt < per.toInt := by
          rcases v4 with q | q
          · omega
          · omega
        rw [h1, if_neg (own_ix0 (by omega)), if_pos (by omega), Int64.toInt_sub, own_bmL (by omega)]
        omega
    obtain ⟨u1, u2, u3⟩ := hU
    generalize (if (d : Int) ≤ p then per.toInt - pf.toInt else 0) = U at *
    generalize own_adm_j20 pp per pf (Int32.ofNat (z + 1)) nf = ju at *
    have hz6 : (Int32.ofNat z).toInt64.toInt = (z : Int) := by rw [Int32.toInt_toInt64, own_ixI (by omega)]
    have h0 : 0 ≤ (z : Int) * per.toInt := Int.mul_nonneg (by omega) (by omega)
    rw [Int64.toInt_sub, Int64.toInt_add, Int64.toInt_mul, hz6, u1]
    generalize (z : Int) * per.toInt = m at *
    rw [own_bmL (x := m) (by omega), own_bmL (x := m + nf.toInt) (by omega), own_bmL (by omega)]
  · rw [own_Gz w, show u - d = 0 by omega]
    unfold own_adm
    rw [if_pos (show Int32.ofNat 0 = 0 from rfl)]; rfl
theorem own_next {per : Int64} {ms : Nat} {Lim : Int} {N t : Int64} {u0 : Nat} {T0 : Nat → Int64} {G0 : Nat → Int} {n : Nat} {f : Nat → Int64} {u : Nat} {nt nf : Int64} {pp : Int32} {pf : Int64} {tc ts : Nat} (H : OwJ per ms Lim N 0 t u0 T0 G0 n f u nt nf pp pf tc ts) :
    OwU n ms tc ts ∧ ∃ p, own_pp pp p u ∧ OwLp per.toInt n ms u nf.toInt pf.toInt p (own_T u f nt) Lim N.toInt 0 t u0 T0 G0 ∧ own_G per.toInt u nf.toInt pf.toInt p 0 = G0 0 + N.toInt := by
  obtain ⟨U, p, hp, L⟩ := H
  refine ⟨U, p, hp, L, ?_⟩
  obtain ⟨V, -, -, -, k, -, -, b3, -⟩ := L
  have := b3 0 (Nat.zero_le k)
  rw [this, show (0 : Int64).toInt = 0 from by decide]; omega
theorem own_begin {per : Int64} {ms : Nat} {Lim : Int} {N t : Int64} {n : Nat} {f : Nat → Int64} {u : Nat} {nt nf : Int64} {pp : Int32} {pf : Int64} {tc ts : Nat} {p : Int} (U : OwU n ms tc ts) (hp : own_pp pp p u) (V : OwV per.toInt n ms u nf.toInt pf.toInt p) (hP : 1 ≤ per.toInt) (hN : 0 ≤ N.toInt) (hL : own_G per.toInt u nf.toInt pf.toInt p 0 + N.toInt ≤ Lim) :
    OwJ per ms Lim N N t u (own_T u f nt) (own_G per.toInt u nf.toInt pf.toInt p) n f u nt nf pp pf tc ts := ⟨U, p, hp, OwLp.start V hP hN hL⟩
theorem own_doneJ {per : Int64} {ms : Nat} {Lim : Int} {N rem t : Int64} {u0 : Nat} {T0 : Nat → Int64} {G0 : Nat → Int} {n : Nat} {f : Nat → Int64} {u : Nat} {nt nf : Int64} {pp : Int32} {pf : Int64} {tc ts : Nat} (H : OwJ per ms Lim N rem t u0 T0 G0 n f u nt nf pp pf tc ts) (h : ¬ (0 : Int64) < rem) : OwJ per ms Lim N 0 t u0 T0 G0 n f u nt nf pp pf tc ts := by
  have h0 : rem = 0 := by
    obtain ⟨U, p, hp, L⟩ := H
    have h1 := L.2.1
    apply Int64.toInt_inj.mp
    rw [own_ltI, show (0 : Int64).toInt = 0 from by decide] at h
    rw [show (0 : Int64).toInt = 0 from by decide]; omega
  rw [← h0]; exact H
theorem own_adm0 {per pf nf v : Int64} {n ms u : Nat} {pp : Int32} {p : Int} (V : OwV per.toInt n ms u nf.toInt pf.toInt p) (hp : own_pp pp p u) (hms : ms ≤ 301) (hP : per.toInt ≤ 4611686018427387904) (hG : own_G per.toInt u nf.toInt pf.toInt p 0 = v.toInt) (hv : v.toInt ≤ 4611686018427387904) : own_adm pp per pf (Int32.ofNat u) nf = v := by
  apply Int64.toInt_inj.mp
  rw [← hG]
  exact own_admI V (own_pd0 hp) (Nat.zero_le u) hms hP (by omega)
theorem own_V0 {P : Int} {ms : Nat} : OwV P 0 ms 0 0 0 (-1) := ⟨Nat.le_refl _, Nat.zero_le _, fun h => absurd h (Nat.lt_irrefl _), Or.inl rfl⟩
theorem own_addI {x y : Int64} (h1 : 0 ≤ x.toInt) (h2 : 0 ≤ y.toInt) (h3 : x.toInt + y.toInt ≤ 9223372036854775807) : (x + y).toInt = x.toInt + y.toInt := by rw [Int64.toInt_add, own_bmL (by omega)]
theorem own_subI {x y : Int64} (h1 : 0 ≤ x.toInt) (h2 : 0 ≤ y.toInt) : (x - y).toInt = x.toInt - y.toInt := by
  have := Int64.toInt_lt x
  have := Int64.toInt_lt y
  rw [Int64.toInt_sub, own_bmL (by omega)]
/-- a remainder of two longs that aren't negative -/
theorem own_remL {x y : Int64} (hx : 0 ≤ x.toInt) (hy : 0 < y.toInt) : (x - (x / y) * y).toInt = x.toInt % y.toInt := by
  have hb := Int64.toInt_lt x
  have hm := Int.mul_ediv_add_emod x.toInt y.toInt
  have hr1 := Int.emod_nonneg x.toInt (show y.toInt ≠ 0 by omega)
  have hd1 : 0 ≤ x.toInt / y.toInt := Int.ediv_nonneg (by omega) (by omega)
  have hd2 : x.toInt / y.toInt ≤ x.toInt := Int.ediv_le_self _ (by omega)
  have hq : (x / y).toInt = x.toInt / y.toInt := by rw [Int64.toInt_div, Int.tdiv_eq_ediv_of_nonneg (by omega), own_bmL (by omega)]
  have hmm : 0 ≤ y.toInt * (x.toInt / y.toInt) := Int.mul_nonneg (by omega) hd1
  generalize hQ : x.toInt / y.toInt = Q at *
  generalize x.toInt % y.toInt = r at *
  have hp : (x / y * y).toInt = y.toInt * Q := by rw [Int64.toInt_mul, hq, Int.mul_comm, own_bmL (by omega)]
  rw [Int64.toInt_sub, hp, own_bmL (by omega)]; omega
theorem own_andI (x m : Int64) (hm : 0 ≤ m.toInt) : 0 ≤ (x &&& m).toInt ∧ (x &&& m).toInt ≤ m.toInt := by
  have hmsb : m.toBitVec.msb = false := by
    rw [BitVec.msb_eq_false_iff_two_mul_lt]
    have h1 : m.toBitVec.toInt = m.toInt := rfl
    rw [BitVec.toInt_eq_toNat_cond] at h1
    have h2 := m.toBitVec.isLt
    split at h1
    · assumption
    · exfalso; omega
  have e2 : m.toInt = (m.toBitVec.toNat : Int) := by
    show m.toBitVec.toInt = _
    rw [BitVec.toInt_eq_msb_cond, hmsb]; simp
  have e1 : (x &&& m).toInt = ((x &&& m).toBitVec.toNat : Int) := by
    show (x &&& m).toBitVec.toInt = _
    rw [Int64.toBitVec_and, BitVec.toInt_eq_msb_cond, BitVec.msb_and, hmsb]; simp
  rw [e1, e2, Int64.toBitVec_and, BitVec.toNat_and]
  have := @Nat.and_le_right x.toBitVec.toNat m.toBitVec.toNat
  omega
theorem own_shr31 (x : Int64) : (x >>> ((31 : Int32).toInt64 &&& 63)).toInt = x.toInt / 2147483648 := by
  have e : ((31 : Int32).toInt64 &&& 63) = (31 : Int64) := by decide
  rw [e]
  show (x >>> (31 : Int64)).toBitVec.toInt = _
  rw [Int64.toBitVec_shiftRight, show ((31 : Int64).toBitVec.smod 64) = 31#64 from by decide]
  show (x.toBitVec.sshiftRight (31#64).toNat).toInt = _
  rw [BitVec.toInt_sshiftRight, Int.shiftRight_eq_div_pow]
  rfl
theorem own_times {q4 t0 th t1 t2 now g1 g2 : Int64} (e0 : q4 >>> ((31 : Int32).toInt64 &&& 63) = t0) (h1 : 0 ≤ g1.toInt ∧ g1.toInt ≤ 1073741823) (h2 : 0 ≤ g2.toInt ∧ g2.toInt ≤ 1073741823) (h3 : 0 ≤ th.toInt ∧ th.toInt ≤ 2147483647) (e1 : t0 + g1 = t1) (e2 : t1 + g2 = t2) (e3 : t2 + th = now) :
    (now - t0 < (1000000000 : Int64) → now - t1 < (1000000000 : Int64)) ∧ (now - t1 < (1000000000 : Int64) → now - t2 < (1000000000 : Int64)) := by
  have hb1 := Int64.toInt_lt q4
  have hb2 := Int64.le_toInt q4
  have ht0 : t0.toInt = q4.toInt / 2147483648 := by rw [← e0, own_shr31]
  have r0 : -4294967296 ≤ t0.toInt ∧ t0.toInt ≤ 4294967295 := by omega
  have ht1 : t1.toInt = t0.toInt + g1.toInt := by rw [← e1, Int64.toInt_add, own_bmL (by omega)]
  have ht2 : t2.toInt = t1.toInt + g2.toInt := by rw [← e2, Int64.toInt_add, own_bmL (by omega)]
  have hn : now.toInt = t2.toInt + th.toInt := by rw [← e3, Int64.toInt_add, own_bmL (by omega)]
  have d0 : (now - t0).toInt = now.toInt - t0.toInt := by rw [Int64.toInt_sub, own_bmL (by omega)]
  have d1 : (now - t1).toInt = now.toInt - t1.toInt := by rw [Int64.toInt_sub, own_bmL (by omega)]
  have d2 : (now - t2).toInt = now.toInt - t2.toInt := by rw [Int64.toInt_sub, own_bmL (by omega)]
  rw [Int64.lt_iff_toInt_lt, Int64.lt_iff_toInt_lt, Int64.lt_iff_toInt_lt, d0, d1, d2]
  omega
/-- the law's amounts -/
theorem own_amounts {q0 q1 q2 q3 x la lb lc pl : Int64} (hx : (1 : Int64) + (q0 &&& (4611686018427387903 : Int64)) = x)
    (ha : (q1 &&& (9223372036854775807 : Int64)) - (q1 &&& (9223372036854775807 : Int64)) / (x + (1 : Int64)) * (x + (1 : Int64)) = la)
    (hb : (q2 &&& (9223372036854775807 : Int64)) - (q2 &&& (9223372036854775807 : Int64)) / ((x - la) + (1 : Int64)) * ((x - la) + (1 : Int64)) = lb)
    (hc : (q3 &&& (9223372036854775807 : Int64)) - (q3 &&& (9223372036854775807 : Int64)) / (((x - la) - lb) + (1 : Int64)) * (((x - la) - lb) + (1 : Int64)) = lc) (hp : (x + (299 : Int64)) / (300 : Int64) = pl) :
    (0 < x.toInt ∧ x.toInt ≤ 4611686018427387904 ∧ 0 ≤ la.toInt ∧ 0 ≤ lb.toInt ∧ 0 ≤ lc.toInt ∧ la.toInt + lb.toInt + lc.toInt ≤ x.toInt ∧ pl.toInt = (x.toInt + 299) / 300) ∧ ¬ x + (1 : Int64) = 0 ∧ ¬ (x - la) + (1 : Int64) = 0 ∧ ¬ ((x - la) - lb) + (1 : Int64) = 0 := by
  have c1 : (1 : Int64).toInt = 1 := by decide
  have c2 : (4611686018427387903 : Int64).toInt = 4611686018427387903 := by decide
  have c3 : (9223372036854775807 : Int64).toInt = 9223372036854775807 := by decide
  have z0 : (0 : Int64).toInt = 0 := by decide
  have a0 := own_andI q0 4611686018427387903 (by rw [c2]; omega)
  have a1 := own_andI q1 9223372036854775807 (by rw [c3]; omega)
  have a2 := own_andI q2 9223372036854775807 (by rw [c3]; omega)
  have a3 := own_andI q3 9223372036854775807 (by rw [c3]; omega)
  rw [c2] at a0
  generalize (q1 &&& (9223372036854775807 : Int64)) = m1 at *
  generalize (q2 &&& (9223372036854775807 : Int64)) = m2 at *
  generalize (q3 &&& (9223372036854775807 : Int64)) = m3 at *
  have x1 : x.toInt = 1 + (q0 &&& (4611686018427387903 : Int64)).toInt := by rw [← hx, own_addI (by omega) (by omega) (by omega), c1]
  have y1 : (x + 1).toInt = x.toInt + 1 := by rw [own_addI (by omega) (by omega) (by omega), c1]
  have r1 : la.toInt = m1.toInt % (x.toInt + 1) := by rw [← ha, own_remL (by omega) (by omega), y1]
  have b1 := Int.emod_nonneg m1.toInt (show x.toInt + 1 ≠ 0 by omega)
  have b2 := Int.emod_lt_of_pos m1.toInt (show 0 < x.toInt + 1 by omega)
  rw [← r1] at b1 b2
  have s1 : (x - la).toInt = x.toInt - la.toInt := own_subI (by omega) (by omega)
  have y2 : ((x - la) + 1).toInt = x.toInt - la.toInt + 1 := by rw [own_addI (by omega) (by omega) (by omega), c1, s1]
  have r2 : lb.toInt = m2.toInt % (x.toInt - la.toInt + 1) := by rw [← hb, own_remL (by omega) (by omega), y2]
  have b3 := Int.emod_nonneg m2.toInt (show x.toInt - la.toInt + 1 ≠ 0 by omega)
  have b4 := Int.emod_lt_of_pos m2.toInt (show 0 < x.toInt - la.toInt + 1 by omega)
  rw [← r2] at b3 b4
  have s2 : ((x - la) - lb).toInt = x.toInt - la.toInt - lb.toInt := by rw [own_subI (by omega) (by omega), s1]
  have y3 : (((x - la) - lb) + 1).toInt = x.toInt - la.toInt - lb.toInt + 1 := by rw [own_addI (by omega) (by omega) (by omega), c1, s2]
  have r3 : lc.toInt = m3.toInt % (x.toInt - la.toInt - lb.toInt + 1) := by rw [← hc, own_remL (by omega) (by omega), y3]
  have b5 := Int.emod_nonneg m3.toInt (show x.toInt - la.toInt - lb.toInt + 1 ≠ 0 by omega)
  have b6 := Int.emod_lt_of_pos m3.toInt (show 0 < x.toInt - la.toInt - lb.toInt + 1 by omega)
  rw [← r3] at b5 b6
  have c4 : (299 : Int64).toInt = 299 := by decide
  have c5 : (300 : Int64).toInt = 300 := by decide
  have p1 : (x + 299).toInt = x.toInt + 299 := by rw [own_addI (by omega) (by omega) (by omega), c4]
  have p2 : pl.toInt = (x.toInt + 299) / 300 := by
    rw [← hp, Int64.toInt_div, p1, c5, Int.tdiv_eq_ediv_of_nonneg (by omega), own_bmL (by omega)]
  refine ⟨⟨by omega, by omega, by omega, by omega, by omega, by omega, p2⟩, fun w => ?_, fun w => ?_, fun w => ?_⟩
  · rw [w] at y1; omega
  · rw [w] at y2; omega
  · rw [w] at y3; omega
theorem own_sum3 {w0 w1 w2 : Int64} (h0 : 0 ≤ w0.toInt) (h1 : 0 ≤ w1.toInt) (h2 : 0 ≤ w2.toInt) (h : w0.toInt + w1.toInt + w2.toInt ≤ 4611686018427387904) : ((w0 + w1) + w2).toInt = w0.toInt + w1.toInt + w2.toInt := by
  rw [own_addI (by rw [own_addI h0 h1 (by omega)]; omega) h2 (by rw [own_addI h0 h1 (by omega)]; omega), own_addI h0 h1 (by omega)]

set_option maxRecDepth 65536 in
set_option maxHeartbeats 40000000 in
theorem rm_add (l : Launch) (Z : State) (a0 : Array Value) (hw : ∀ d ∈ tables_1, d.before a0 Z = true) (o : Addr) (t N per : Int64) (ms : Nat) (n0 : Nat) (Lim : Int) (u0 : Nat) (T0 : Nat → Int64) (G0 : Nat → Int) (tc0 ts0 : Nat) (hP : 1 ≤ per.toInt) (hLim : Lim ≤ ((ms - 1 : Nat) : Int) * per.toInt) (hm2 : 2 ≤ ms) (hms : ms ≤ 301) (q : Addr) (n : Nat) (f : Nat → Int64) (u : Nat) (nt nf : Int64) (pp : Int32) (pf : Int64) (h0 : Heap) (R : OwR Z h0 n0 o q n f 0 u nt nf pp pf per ms) (J : OwJ per ms Lim N N t u0 T0 G0 n f u nt nf pp pf tc0 ts0) :
    OwConE l (⟨"com/example/calm_valve/calmvalve/AdmissionWindow", "add", "(JJ)V"⟩ : MethodName) prog_1_method_6_code 10 none ({ frames := 3, cells := 8, slots := (903 - ts0), locals := 80 } : Room) Z #[(.ref o), (.long t), (.long N)] h0 (fun v h L kc ks => v = none ∧ Fr n0 L ∧ ∃ q n f u nt nf pp pf, OwR Z h n0 o q n f 0 u nt nf pp pf per ms ∧ OwJ per ms Lim N 0 t u0 T0 G0 n f u nt nf pp pf (tc0 + kc) (ts0 + ks)) := by
  refine OwConE.of pn_6 (Ls := #[.val (.ref o), .val (.long t), .second, .val (.long N), .second, .unset, .unset, .unset, .unset, .unset]) (fun m => by first | (simp [entryFrame, mkF, argsToLocals, Value.category]; done) | rfl) ?_
  intro p e s m below meth c s₁ C X0 e0
  refine ow_lloadN C X0 d6_0 rfl (pc' := 1) rfl ?_
  refine ow_lstore C X0 d6_1 (Ls' := #[.val (.ref o), .val (.long t), .second, .val (.long N), .second, .val (.long N), .second, .unset, .unset, .unset]) rfl (pc' := 3) rfl ?_
  refine lp_add l Z a0 hw o t N per ms n0 Lim u0 T0 G0 tc0 ts0 hP hLim hm2 hms C ?_ (N.toInt.toNat + 1) N q n f u nt nf pp pf 0 0 s₁ h0 [] .unset .unset .unset (Nat.lt_succ_self _) Jvm.RoadKit.One.u (Or.inl ⟨rfl, rfl⟩) R J (Fr.nil n0) X0 e0
  intro rem qz nz fz uz ntz nfz ppz pfz cz sz Tz hz locs x7 x8 x9 hb Rz Jz Nz Xz ez
  refine ow_retVE C Xz d6_193 ?_
  rw [ez]
  exact ⟨rfl, Nz, qz, nz, fz, uz, ntz, nfz, ppz, pfz, Rz, own_doneJ Jz hb⟩
theorem d13_0 : decode prog_1_method_9_code 0 = .ok (.aload_n 0, 1) := by decide +kernel
theorem d13_1 : decode prog_1_method_9_code 1 = .ok (.getfield 35, 3) := by decide +kernel
theorem d13_4 : decode prog_1_method_9_code 4 = .ok (.iconst 1, 1) := by decide +kernel
theorem d13_5 : decode prog_1_method_9_code 5 = .ok (.if_icmp .ne 10, 3) := by decide +kernel
theorem d13_8 : decode prog_1_method_9_code 8 = .ok (.aload_n 0, 1) := by decide +kernel
theorem d13_9 : decode prog_1_method_9_code 9 = .ok (.getfield 67, 3) := by decide +kernel
theorem d13_12 : decode prog_1_method_9_code 12 = .ok (.goto 12, 3) := by decide +kernel
theorem d13_15 : decode prog_1_method_9_code 15 = .ok (.aload_n 0, 1) := by decide +kernel
theorem d13_16 : decode prog_1_method_9_code 16 = .ok (.getfield 9, 3) := by decide +kernel
theorem d13_19 : decode prog_1_method_9_code 19 = .ok (.aload_n 0, 1) := by decide +kernel
theorem d13_20 : decode prog_1_method_9_code 20 = .ok (.getfield 44, 3) := by decide +kernel
theorem d13_23 : decode prog_1_method_9_code 23 = .ok (.laload, 1) := by decide +kernel
theorem d13_24 : decode prog_1_method_9_code 24 = .ok (.lreturn, 1) := by decide +kernel
theorem pn_13 : plainFor (⟨"com/example/calm_valve/calmvalve/AdmissionWindow", "oldestTime", "()J"⟩ : MethodName) = true := by first | exact plainFor_of_name (by first | (simp [plainName, overriddenIn]; done) | decide +kernel) | decide +kernel
set_option maxRecDepth 65536 in
set_option maxHeartbeats 40000000 in
theorem rm_old (l : Launch) (Z : State) (a0 : Array Value) (hw : ∀ d ∈ tables_1, d.before a0 Z = true) (o q : Addr) (n : Nat) (f : Nat → Int64) (d w : Nat) (nt nf : Int64) (pp : Int32) (pf per : Int64) (ms : Nat) (h0 : Heap) (n0 : Nat) (hd : d + w + 1 ≤ n) (hn : n < 1000000) (R : OwR Z h0 n0 o q n f d (w + 1) nt nf pp pf per ms) :
    OwCon l (⟨"com/example/calm_valve/calmvalve/AdmissionWindow", "oldestTime", "()J"⟩ : MethodName) prog_1_method_9_code 1 (some .long) ({ frames := 0, cells := 0, slots := 0, locals := 0 } : Room) Z #[(.ref o)] h0 (OwP (some (.long (own_T (d + (w + 1)) f nt d))) h0) := by
  obtain ⟨E, Fs, Fp, Fe, Fm, Fu, Fo, Fq, Ff, Ft, A, go, gq, nq⟩ := R
  refine OwCon.of pn_13 (Ls := #[.val (.ref o)]) (fun m => by first | (simp [entryFrame, mkF, argsToLocals, Value.category]; done) | rfl) ?_
  intro p e s m below meth c s₁ C X0 e0
  refine ow_aloadN C X0 d13_0 rfl rfl (pc' := 1) rfl ?_
  refine ow_getF C X0 e0 (hw _ (List.mem_of_getElem? (i := 37) rfl)) Fu d13_1 (pc' := 4) rfl (fun T152 X152 e152 => ?_)
  refine ow_iconst (1 : Int32) C X152 d13_4 (by decide) (pc' := 5) rfl ?_
  refine ow_icmp_ne C X152 d13_5 (pcT := 15) (pc' := 8) (by decide) (by decide) rfl (fun b5 => ?_) (fun b5 => ?_)
  · refine ow_aloadN C X152 d13_15 rfl rfl (pc' := 16) rfl ?_
    refine ow_getF C X152 e152 (hw _ (List.mem_of_getElem? (i := 16) rfl)) Fs d13_16 (pc' := 19) rfl (fun T154 X154 e154 => ?_)
    refine ow_aloadN C X154 d13_19 rfl rfl (pc' := 20) rfl ?_
    refine ow_getF C X154 e154 (hw _ (List.mem_of_getElem? (i := 54) rfl)) Fo d13_20 (pc' := 23) rfl (fun T155 X155 e155 => ?_)
    refine ow_laload (i := d) C X155 e155 A (own_ix0 (by omega)) (own_ixN (by omega)) (by omega) (v := (.long (f d))) rfl d13_23 (pc' := 24) rfl ?_
    exact ow_retJ C X155 d13_24 (Nat.le_of_ble_eq_true rfl) (Nat.le_of_ble_eq_true rfl) ⟨congrArg (fun z => some (Value.long z)) (show (f d) = own_T (d + (w + 1)) f nt d from by unfold own_T; rw [if_neg (fun z => b5 ((own_eqN (b := 1) (by omega) (by omega)).mpr (by omega)))]), rfl, e155⟩
  · refine ow_aloadN C X152 d13_8 rfl rfl (pc' := 9) rfl ?_
    refine ow_getF C X152 e152 (hw _ (List.mem_of_getElem? (i := 61) rfl)) Ft d13_9 (pc' := 12) rfl (fun T153 X153 e153 => ?_)
    refine ow_goto C X153 d13_12 (pcT := 24) (by decide) (by decide) ?_
    exact ow_retJ C X153 d13_24 (Nat.le_of_ble_eq_true rfl) (Nat.le_of_ble_eq_true rfl) ⟨congrArg (fun z => some (Value.long z)) (show nt = own_T (d + (w + 1)) f nt d from by unfold own_T; rw [if_pos (by have := (own_eqN (b := 1) (by omega) (by omega)).mp b5; omega)]), rfl, e153⟩
theorem d12_0 : decode prog_1_method_2_code 0 = .ok (.aload_n 0, 1) := by decide +kernel
theorem d12_1 : decode prog_1_method_2_code 1 = .ok (.getfield 35, 3) := by decide +kernel
theorem d12_4 : decode prog_1_method_2_code 4 = .ok (.ifCond .le 61, 3) := by decide +kernel
theorem d12_7 : decode prog_1_method_2_code 7 = .ok (.lload_n 1, 1) := by decide +kernel
theorem d12_8 : decode prog_1_method_2_code 8 = .ok (.aload_n 0, 1) := by decide +kernel
theorem d12_9 : decode prog_1_method_2_code 9 = .ok (.invokevirtual 38, 3) := by decide +kernel
theorem d12_12 : decode prog_1_method_2_code 12 = .ok (.lsub, 1) := by decide +kernel
theorem d12_13 : decode prog_1_method_2_code 13 = .ok (.ldc2_w 42, 3) := by decide +kernel
theorem d12_16 : decode prog_1_method_2_code 16 = .ok (.lcmp, 1) := by decide +kernel
theorem d12_17 : decode prog_1_method_2_code 17 = .ok (.ifCond .lt 48, 3) := by decide +kernel
theorem d12_20 : decode prog_1_method_2_code 20 = .ok (.aload_n 0, 1) := by decide +kernel
theorem d12_21 : decode prog_1_method_2_code 21 = .ok (.getfield 44, 3) := by decide +kernel
theorem d12_24 : decode prog_1_method_2_code 24 = .ok (.aload_n 0, 1) := by decide +kernel
theorem d12_25 : decode prog_1_method_2_code 25 = .ok (.getfield 13, 3) := by decide +kernel
theorem d12_28 : decode prog_1_method_2_code 28 = .ok (.if_icmp .ne 8, 3) := by decide +kernel
theorem d12_31 : decode prog_1_method_2_code 31 = .ok (.aload_n 0, 1) := by decide +kernel
theorem d12_32 : decode prog_1_method_2_code 32 = .ok (.iconst (-1), 1) := by decide +kernel
theorem d12_33 : decode prog_1_method_2_code 33 = .ok (.putfield 13, 3) := by decide +kernel
theorem d12_36 : decode prog_1_method_2_code 36 = .ok (.aload_n 0, 1) := by decide +kernel
theorem d12_37 : decode prog_1_method_2_code 37 = .ok (.aload_n 0, 1) := by decide +kernel
theorem d12_38 : decode prog_1_method_2_code 38 = .ok (.getfield 44, 3) := by decide +kernel
theorem d12_41 : decode prog_1_method_2_code 41 = .ok (.iconst 1, 1) := by decide +kernel
theorem d12_42 : decode prog_1_method_2_code 42 = .ok (.iadd, 1) := by decide +kernel
theorem d12_43 : decode prog_1_method_2_code 43 = .ok (.aload_n 0, 1) := by decide +kernel
theorem d12_44 : decode prog_1_method_2_code 44 = .ok (.getfield 9, 3) := by decide +kernel
theorem d12_47 : decode prog_1_method_2_code 47 = .ok (.arraylength, 1) := by decide +kernel
theorem d12_48 : decode prog_1_method_2_code 48 = .ok (.irem, 1) := by decide +kernel
theorem d12_49 : decode prog_1_method_2_code 49 = .ok (.putfield 44, 3) := by decide +kernel
theorem d12_52 : decode prog_1_method_2_code 52 = .ok (.aload_n 0, 1) := by decide +kernel
theorem d12_53 : decode prog_1_method_2_code 53 = .ok (.dup, 1) := by decide +kernel
theorem d12_54 : decode prog_1_method_2_code 54 = .ok (.getfield 35, 3) := by decide +kernel
theorem d12_57 : decode prog_1_method_2_code 57 = .ok (.iconst 1, 1) := by decide +kernel
theorem d12_58 : decode prog_1_method_2_code 58 = .ok (.isub, 1) := by decide +kernel
theorem d12_59 : decode prog_1_method_2_code 59 = .ok (.putfield 35, 3) := by decide +kernel
theorem d12_62 : decode prog_1_method_2_code 62 = .ok (.goto (-62), 3) := by decide +kernel
theorem d12_65 : decode prog_1_method_2_code 65 = .ok (.aload_n 0, 1) := by decide +kernel
theorem d12_66 : decode prog_1_method_2_code 66 = .ok (.invokevirtual 47, 3) := by decide +kernel
theorem d12_69 : decode prog_1_method_2_code 69 = .ok (.lreturn, 1) := by decide +kernel
theorem pn_12 : plainFor (⟨"com/example/calm_valve/calmvalve/AdmissionWindow", "admittedAt", "(J)J"⟩ : MethodName) = true := by first | exact plainFor_of_name (by first | (simp [plainName, overriddenIn]; done) | decide +kernel) | decide +kernel
theorem pd_7 : parseMethodDescriptor "(J)J" = some ⟨[.long], (some .long)⟩ := by decide +kernel
theorem own_nm1' {d : Nat} (h : d < 1000000) : ¬ Int32.ofNat d = (-1 : Int32) := fun w => by
  have q4 := congrArg Int32.toInt w
  rw [own_ixI (by omega), show (-1 : Int32).toInt = -1 from by decide] at q4
  omega
theorem own_oldnx {d n : Nat} (h : d < n) (hn : n < 1000000) : (Int32.ofNat d + 1) - ((Int32.ofNat d + 1) / Int32.ofNat n) * Int32.ofNat n = Int32.ofNat ((d + 1) % n) := by
  rw [own_inc, own_remN (by omega) (by omega) (by omega)]
set_option maxRecDepth 65536 in
set_option maxHeartbeats 40000000 in
theorem lp_at {p : Program} {e : Env} {s : State} {m : MethodId} {args : Array Value} {below : List Frame} {meth : Method} {c : Code} {D : State → Outcome → Prop} (l : Launch) (Z : State) (a0 : Array Value) (hw : ∀ d ∈ tables_1, d.before a0 Z = true) (o q : Addr) (n : Nat) (f : Nat → Int64) (u : Nat) (nt nf pf per : Int64) (ms : Nat) (now : Int64) (pz : Int) (n0 : Nat) (hun : u ≤ n) (hn : n < 1000000) (C : OwC p Z s m meth c "com/example/calm_valve/calmvalve/AdmissionWindow" "admittedAt" prog_1_method_2_code 3 (some .long))
    (kN : ∀ d a w pp T h locs, d + w = u → (∀ j, j < d → ¬ (now - own_T u f nt j) < (1000000000 : Int64)) → (d = u ∨ (now - own_T u f nt d) < (1000000000 : Int64)) → own_pd pp pz d u → OwR Z h n0 o q n f a w nt nf pp pf per ms → Fr n0 locs → Stand p l e ({ frames := 1, cells := 0, slots := 0, locals := 60 } : Room) s m args below meth c T locs 0 0 → T.heap = h → OwF p e below D T (mkF m 65 #[.val (.ref o), .val (.long now), .second] [])) :
    ∀ (w d a : Nat) pp T h locs, d + w = u → (d < u → a = d) → (∀ j, j < d → ¬ (now - own_T u f nt j) < (1000000000 : Int64)) → own_pd pp pz d u → OwR Z h n0 o q n f a w nt nf pp pf per ms → Fr n0 locs → Stand p l e ({ frames := 1, cells := 0, slots := 0, locals := 60 } : Room) s m args below meth c T locs 0 0 → T.heap = h → OwF p e below D T (mkF m 0 #[.val (.ref o), .val (.long now), .second] []) := by
  intro w
  induction w with
  | zero =>
    intro d a pp Tz hz locs hd ha Hd hp Rz Nz Xz ez
    have Rk := Rz
    obtain ⟨E, Fs, Fp, Fe, Fm, Fu, Fo, Fq, Ff, Ft, A, go, gq, nq⟩ := Rz
    refine ow_aloadN C Xz d12_0 rfl rfl (pc' := 1) rfl ?_
    refine ow_getF C Xz ez (hw _ (List.mem_of_getElem? (i := 37) rfl)) Fu d12_1 (pc' := 4) rfl (fun T156 X156 e156 => ?_)
    refine ow_if_le C X156 d12_4 (pcT := 65) (pc' := 7) (by decide) (by decide) rfl (fun _ => ?_) (fun bq => absurd bq (by decide))
    exact kN d a 0 pp T156 _ _ hd Hd (Or.inl (by omega)) hp Rk Nz X156 e156
  | succ w ih =>
    intro d a pp Tz hz locs hd ha Hd hp Rz Nz Xz ez
    obtain rfl := ha (by omega)
    have hdn : a < n := by omega
    have hT : own_T (a + (w + 1)) f nt a = own_T u f nt a := by rw [hd]
    have Rk := Rz
    rcases (id hp) with ⟨rfl, hp1⟩ | ⟨k, rfl, hp1, hp2, hp3⟩
    · obtain ⟨E, Fs, Fp, Fe, Fm, Fu, Fo, Fq, Ff, Ft, A, go, gq, nq⟩ := Rz
      refine ow_aloadN C Xz d12_0 rfl rfl (pc' := 1) rfl ?_
      refine ow_getF C Xz ez (hw _ (List.mem_of_getElem? (i := 37) rfl)) Fu d12_1 (pc' := 4) rfl (fun T157 X157 e157 => ?_)
      refine ow_if_le C X157 d12_4 (pcT := 65) (pc' := 7) (by decide) (by decide) rfl (fun bq => absurd (own_up (Nat.succ_pos w) (by omega)) bq) (fun _ => ?_)
      refine ow_lloadN C X157 d12_7 rfl (pc' := 8) rfl ?_
      refine ow_aloadN C X157 d12_8 rfl rfl (pc' := 9) rfl ?_
      refine ow_callR C X157 e157 (hw _ (List.mem_of_getElem? (i := 72) rfl)) (hw _ (List.mem_of_getElem? (i := 73) rfl)) (hw _ (List.mem_of_getElem? (i := 74) rfl)) (hw _ (List.mem_of_getElem? (i := 7) rfl)) (hw _ (List.mem_of_getElem? (i := 8) rfl)) (hw _ (List.mem_of_getElem? (i := 75) rfl)) (by decide) E (rm_old l Z a0 hw o q n f a w nt nf (-1 : Int32) pf per ms hz n0 (by omega) hn ⟨E, Fs, Fp, Fe, Fm, Fu, Fo, Fq, Ff, Ft, A, go, gq, nq⟩) pd_2 rfl (argsL := []) (rest := [(.long now)]) rfl rfl d12_9 (Nat.le_of_ble_eq_true rfl) (Nat.le_of_ble_eq_true rfl) (Nat.le_of_ble_eq_true rfl) (Nat.le_of_ble_eq_true rfl) (pc' := 12) rfl (fun T158 v158 L158 X158 Q158 => ?_)
      obtain ⟨rfl, rfl, e158⟩ := Q158
      rw [List.append_nil] at X158
      show OwF p e below _ T158 (mkF m 12 #[.val (.ref o), .val (.long now), .second] [(.long (own_T (a + (w + 1)) f nt a)), (.long now)])
      rw [hT]
      refine ow_lsub C X158 d12_12 (pc' := 13) rfl ?_
      refine ow_ldc2 C X158 (hw _ (List.mem_of_getElem? (i := 76) rfl)) d12_13 (pc' := 16) rfl ?_
      refine ow_lcmp C X158 d12_16 (pc' := 17) rfl ?_
      refine ow_lif_lt C X158 d12_17 (pcT := 65) (pc' := 20) (by decide) (by decide) rfl (fun b17 => ?_) (fun b17 => ?_)
      · exact kN a a (w + 1) (-1 : Int32) T158 _ _ hd Hd (Or.inr b17) hp Rk Nz X158 e158
      · refine ow_aloadN C X158 d12_20 rfl rfl (pc' := 21) rfl ?_
        refine ow_getF C X158 e158 (hw _ (List.mem_of_getElem? (i := 54) rfl)) Fo d12_21 (pc' := 24) rfl (fun T159 X159 e159 => ?_)
        refine ow_aloadN C X159 d12_24 rfl rfl (pc' := 25) rfl ?_
        refine ow_getF C X159 e159 (hw _ (List.mem_of_getElem? (i := 18) rfl)) Fp d12_25 (pc' := 28) rfl (fun T160 X160 e160 => ?_)
        refine ow_icmp_ne C X160 d12_28 (pcT := 36) (pc' := 31) (by decide) (by decide) rfl (fun _ => ?_) (fun bq => absurd bq (own_nm1' (by omega)))
        refine ow_aloadN C X160 d12_36 rfl rfl (pc' := 37) rfl ?_
        refine ow_aloadN C X160 d12_37 rfl rfl (pc' := 38) rfl ?_
        refine ow_getF C X160 e160 (hw _ (List.mem_of_getElem? (i := 54) rfl)) Fo d12_38 (pc' := 41) rfl (fun T161 X161 e161 => ?_)
        refine ow_iconst (1 : Int32) C X161 d12_41 (by decide) (pc' := 42) rfl ?_
        refine ow_iadd C X161 d12_42 (pc' := 43) rfl ?_
        refine ow_aloadN C X161 d12_43 rfl rfl (pc' := 44) rfl ?_
        refine ow_getF C X161 e161 (hw _ (List.mem_of_getElem? (i := 16) rfl)) Fs d12_44 (pc' := 47) rfl (fun T162 X162 e162 => ?_)
        refine ow_arraylength C X162 e162 A (z := (Int32.ofNat n)) rfl d12_47 (pc' := 48) rfl ?_
        refine ow_irem C X162 d12_48 (own_nzK hdn hn) (pc' := 49) rfl ?_
        rw [own_oldnx hdn hn]
        refine ow_putF C X162 e162 (hw _ (List.mem_of_getElem? (i := 54) rfl)) Fo E (Or.inl (hw _ (List.mem_of_getElem? (i := 55) rfl))) (hw _ (List.mem_of_getElem? (i := 7) rfl)) (ty := .int) (by decide) rfl rfl d12_49 (pc' := 52) rfl (fun T163 h163 X163 e163 W163 => ?_)
        have E163_0 := E.wr W163
        have F163_1 := Fs.other W163 (Or.inr (slot_ne (Or.inl (hw _ (List.mem_of_getElem? (i := 17) rfl))) (Or.inl (hw _ (List.mem_of_getElem? (i := 55) rfl))) (by decide) (t := (.array .long)) (t' := .int) (by decide) (by decide)))
        have F163_2 := Fp.other W163 (Or.inr (slot_ne (Or.inl (hw _ (List.mem_of_getElem? (i := 19) rfl))) (Or.inl (hw _ (List.mem_of_getElem? (i := 55) rfl))) (by decide) (t := .int) (t' := .int) (by decide) (by decide)))
        have F163_3 := Fe.other W163 (Or.inr (slot_ne (Or.inr (hw _ (List.mem_of_getElem? (i := 29) rfl))) (Or.inl (hw _ (List.mem_of_getElem? (i := 55) rfl))) (by decide) (t := .long) (t' := .int) (by decide) (by decide)))
        have F163_4 := Fm.other W163 (Or.inr (slot_ne (Or.inr (hw _ (List.mem_of_getElem? (i := 31) rfl))) (Or.inl (hw _ (List.mem_of_getElem? (i := 55) rfl))) (by decide) (t := .int) (t' := .int) (by decide) (by decide)))
        have F163_5 := Fu.other W163 (Or.inr (slot_ne (Or.inl (hw _ (List.mem_of_getElem? (i := 38) rfl))) (Or.inl (hw _ (List.mem_of_getElem? (i := 55) rfl))) (by decide) (t := .int) (t' := .int) (by decide) (by decide)))
        have F163_6 := Fo.same W163
        have F163_7 := Fq.other W163 (Or.inr (slot_ne (Or.inl (hw _ (List.mem_of_getElem? (i := 81) rfl))) (Or.inl (hw _ (List.mem_of_getElem? (i := 55) rfl))) (by decide) (t := .long) (t' := .int) (by decide) (by decide)))
        have F163_8 := Ff.other W163 (Or.inr (slot_ne (Or.inl (hw _ (List.mem_of_getElem? (i := 60) rfl))) (Or.inl (hw _ (List.mem_of_getElem? (i := 55) rfl))) (by decide) (t := .long) (t' := .int) (by decide) (by decide)))
        have F163_9 := Ft.other W163 (Or.inr (slot_ne (Or.inl (hw _ (List.mem_of_getElem? (i := 62) rfl))) (Or.inl (hw _ (List.mem_of_getElem? (i := 55) rfl))) (by decide) (t := .long) (t' := .int) (by decide) (by decide)))
        have A163_q := A.other W163 (Ne.symm nq)
        have N163 := Fr.snoc X163 Nz go
        refine ow_aloadN C X163 d12_52 rfl rfl (pc' := 53) rfl ?_
        refine ow_dup C X163 d12_53 rfl (pc' := 54) rfl ?_
        refine ow_getF C X163 e163 (hw _ (List.mem_of_getElem? (i := 37) rfl)) F163_5 d12_54 (pc' := 57) rfl (fun T164 X164 e164 => ?_)
        refine ow_iconst (1 : Int32) C X164 d12_57 (by decide) (pc' := 58) rfl ?_
        refine ow_isub C X164 d12_58 (pc' := 59) rfl ?_
        rw [own_dec w]
        refine ow_putF C X164 e164 (hw _ (List.mem_of_getElem? (i := 37) rfl)) F163_5 E163_0 (Or.inl (hw _ (List.mem_of_getElem? (i := 38) rfl))) (hw _ (List.mem_of_getElem? (i := 7) rfl)) (ty := .int) (by decide) rfl rfl d12_59 (pc' := 62) rfl (fun T165 h165 X165 e165 W165 => ?_)
        have E165_0 := E163_0.wr W165
        have F165_1 := F163_1.other W165 (Or.inr (slot_ne (Or.inl (hw _ (List.mem_of_getElem? (i := 17) rfl))) (Or.inl (hw _ (List.mem_of_getElem? (i := 38) rfl))) (by decide) (t := (.array .long)) (t' := .int) (by decide) (by decide)))
        have F165_2 := F163_2.other W165 (Or.inr (slot_ne (Or.inl (hw _ (List.mem_of_getElem? (i := 19) rfl))) (Or.inl (hw _ (List.mem_of_getElem? (i := 38) rfl))) (by decide) (t := .int) (t' := .int) (by decide) (by decide)))
        have F165_3 := F163_3.other W165 (Or.inr (slot_ne (Or.inr (hw _ (List.mem_of_getElem? (i := 29) rfl))) (Or.inl (hw _ (List.mem_of_getElem? (i := 38) rfl))) (by decide) (t := .long) (t' := .int) (by decide) (by decide)))
        have F165_4 := F163_4.other W165 (Or.inr (slot_ne (Or.inr (hw _ (List.mem_of_getElem? (i := 31) rfl))) (Or.inl (hw _ (List.mem_of_getElem? (i := 38) rfl))) (by decide) (t := .int) (t' := .int) (by decide) (by decide)))
        have F165_5 := F163_5.same W165
        have F165_6 := F163_6.other W165 (Or.inr (slot_ne (Or.inl (hw _ (List.mem_of_getElem? (i := 55) rfl))) (Or.inl (hw _ (List.mem_of_getElem? (i := 38) rfl))) (by decide) (t := .int) (t' := .int) (by decide) (by decide)))
        have F165_7 := F163_7.other W165 (Or.inr (slot_ne (Or.inl (hw _ (List.mem_of_getElem? (i := 81) rfl))) (Or.inl (hw _ (List.mem_of_getElem? (i := 38) rfl))) (by decide) (t := .long) (t' := .int) (by decide) (by decide)))
        have F165_8 := F163_8.other W165 (Or.inr (slot_ne (Or.inl (hw _ (List.mem_of_getElem? (i := 60) rfl))) (Or.inl (hw _ (List.mem_of_getElem? (i := 38) rfl))) (by decide) (t := .long) (t' := .int) (by decide) (by decide)))
        have F165_9 := F163_9.other W165 (Or.inr (slot_ne (Or.inl (hw _ (List.mem_of_getElem? (i := 62) rfl))) (Or.inl (hw _ (List.mem_of_getElem? (i := 38) rfl))) (by decide) (t := .long) (t' := .int) (by decide) (by decide)))
        have A165_q := A163_q.other W165 (Ne.symm nq)
        have N165 := Fr.snoc X165 N163 go
        refine ow_goto C X165 d12_62 (pcT := 0) (by decide) (by decide) ?_
        exact ih (a + 1) ((a + 1) % n) (-1 : Int32) T165 _ _ (by omega) (fun z => Nat.mod_eq_of_lt (by omega)) (fun j hj => by rcases Nat.lt_or_eq_of_le (Nat.le_of_lt_succ hj) with z | z; exact Hd j z; subst z; exact b17) (Or.inl ⟨rfl, by omega⟩) ⟨E165_0, F165_1, F165_2, F165_3, F165_4, F165_5, F165_6, F165_7, F165_8, F165_9, A165_q, go, gq, nq⟩ N165 X165 e165
    · obtain ⟨E, Fs, Fp, Fe, Fm, Fu, Fo, Fq, Ff, Ft, A, go, gq, nq⟩ := Rz
      refine ow_aloadN C Xz d12_0 rfl rfl (pc' := 1) rfl ?_
      refine ow_getF C Xz ez (hw _ (List.mem_of_getElem? (i := 37) rfl)) Fu d12_1 (pc' := 4) rfl (fun T166 X166 e166 => ?_)
      refine ow_if_le C X166 d12_4 (pcT := 65) (pc' := 7) (by decide) (by decide) rfl (fun bq => absurd (own_up (Nat.succ_pos w) (by omega)) bq) (fun _ => ?_)
      refine ow_lloadN C X166 d12_7 rfl (pc' := 8) rfl ?_
      refine ow_aloadN C X166 d12_8 rfl rfl (pc' := 9) rfl ?_
      refine ow_callR C X166 e166 (hw _ (List.mem_of_getElem? (i := 72) rfl)) (hw _ (List.mem_of_getElem? (i := 73) rfl)) (hw _ (List.mem_of_getElem? (i := 74) rfl)) (hw _ (List.mem_of_getElem? (i := 7) rfl)) (hw _ (List.mem_of_getElem? (i := 8) rfl)) (hw _ (List.mem_of_getElem? (i := 75) rfl)) (by decide) E (rm_old l Z a0 hw o q n f a w nt nf (Int32.ofNat k) pf per ms hz n0 (by omega) hn ⟨E, Fs, Fp, Fe, Fm, Fu, Fo, Fq, Ff, Ft, A, go, gq, nq⟩) pd_2 rfl (argsL := []) (rest := [(.long now)]) rfl rfl d12_9 (Nat.le_of_ble_eq_true rfl) (Nat.le_of_ble_eq_true rfl) (Nat.le_of_ble_eq_true rfl) (Nat.le_of_ble_eq_true rfl) (pc' := 12) rfl (fun T167 v167 L167 X167 Q167 => ?_)
      obtain ⟨rfl, rfl, e167⟩ := Q167
      rw [List.append_nil] at X167
      show OwF p e below _ T167 (mkF m 12 #[.val (.ref o), .val (.long now), .second] [(.long (own_T (a + (w + 1)) f nt a)), (.long now)])
      rw [hT]
      refine ow_lsub C X167 d12_12 (pc' := 13) rfl ?_
      refine ow_ldc2 C X167 (hw _ (List.mem_of_getElem? (i := 76) rfl)) d12_13 (pc' := 16) rfl ?_
      refine ow_lcmp C X167 d12_16 (pc' := 17) rfl ?_
      refine ow_lif_lt C X167 d12_17 (pcT := 65) (pc' := 20) (by decide) (by decide) rfl (fun b17 => ?_) (fun b17 => ?_)
      · exact kN a a (w + 1) (Int32.ofNat k) T167 _ _ hd Hd (Or.inr b17) hp Rk Nz X167 e167
      · refine ow_aloadN C X167 d12_20 rfl rfl (pc' := 21) rfl ?_
        refine ow_getF C X167 e167 (hw _ (List.mem_of_getElem? (i := 54) rfl)) Fo d12_21 (pc' := 24) rfl (fun T168 X168 e168 => ?_)
        refine ow_aloadN C X168 d12_24 rfl rfl (pc' := 25) rfl ?_
        refine ow_getF C X168 e168 (hw _ (List.mem_of_getElem? (i := 18) rfl)) Fp d12_25 (pc' := 28) rfl (fun T169 X169 e169 => ?_)
        refine ow_icmp_ne C X169 d12_28 (pcT := 36) (pc' := 31) (by decide) (by decide) rfl (fun b28 => ?_) (fun b28 => ?_)
        · refine ow_aloadN C X169 d12_36 rfl rfl (pc' := 37) rfl ?_
          refine ow_aloadN C X169 d12_37 rfl rfl (pc' := 38) rfl ?_
          refine ow_getF C X169 e169 (hw _ (List.mem_of_getElem? (i := 54) rfl)) Fo d12_38 (pc' := 41) rfl (fun T176 X176 e176 => ?_)
          refine ow_iconst (1 : Int32) C X176 d12_41 (by decide) (pc' := 42) rfl ?_
          refine ow_iadd C X176 d12_42 (pc' := 43) rfl ?_
          refine ow_aloadN C X176 d12_43 rfl rfl (pc' := 44) rfl ?_
          refine ow_getF C X176 e176 (hw _ (List.mem_of_getElem? (i := 16) rfl)) Fs d12_44 (pc' := 47) rfl (fun T177 X177 e177 => ?_)
          refine ow_arraylength C X177 e177 A (z := (Int32.ofNat n)) rfl d12_47 (pc' := 48) rfl ?_
          refine ow_irem C X177 d12_48 (own_nzK hdn hn) (pc' := 49) rfl ?_
          rw [own_oldnx hdn hn]
          refine ow_putF C X177 e177 (hw _ (List.mem_of_getElem? (i := 54) rfl)) Fo E (Or.inl (hw _ (List.mem_of_getElem? (i := 55) rfl))) (hw _ (List.mem_of_getElem? (i := 7) rfl)) (ty := .int) (by decide) rfl rfl d12_49 (pc' := 52) rfl (fun T178 h178 X178 e178 W178 => ?_)
          have E178_0 := E.wr W178
          have F178_1 := Fs.other W178 (Or.inr (slot_ne (Or.inl (hw _ (List.mem_of_getElem? (i := 17) rfl))) (Or.inl (hw _ (List.mem_of_getElem? (i := 55) rfl))) (by decide) (t := (.array .long)) (t' := .int) (by decide) (by decide)))
          have F178_2 := Fp.other W178 (Or.inr (slot_ne (Or.inl (hw _ (List.mem_of_getElem? (i := 19) rfl))) (Or.inl (hw _ (List.mem_of_getElem? (i := 55) rfl))) (by decide) (t := .int) (t' := .int) (by decide) (by decide)))
          have F178_3 := Fe.other W178 (Or.inr (slot_ne (Or.inr (hw _ (List.mem_of_getElem? (i := 29) rfl))) (Or.inl (hw _ (List.mem_of_getElem? (i := 55) rfl))) (by decide) (t := .long) (t' := .int) (by decide) (by decide)))
          have F178_4 := Fm.other W178 (Or.inr (slot_ne (Or.inr (hw _ (List.mem_of_getElem? (i := 31) rfl))) (Or.inl (hw _ (List.mem_of_getElem? (i := 55) rfl))) (by decide) (t := .int) (t' := .int) (by decide) (by decide)))
          have F178_5 := Fu.other W178 (Or.inr (slot_ne (Or.inl (hw _ (List.mem_of_getElem? (i := 38) rfl))) (Or.inl (hw _ (List.mem_of_getElem? (i := 55) rfl))) (by decide) (t := .int) (t' := .int) (by decide) (by decide)))
          have F178_6 := Fo.same W178
          have F178_7 := Fq.other W178 (Or.inr (slot_ne (Or.inl (hw _ (List.mem_of_getElem? (i := 81) rfl))) (Or.inl (hw _ (List.mem_of_getElem? (i := 55) rfl))) (by decide) (t := .long) (t' := .int) (by decide) (by decide)))
          have F178_8 := Ff.other W178 (Or.inr (slot_ne (Or.inl (hw _ (List.mem_of_getElem? (i := 60) rfl))) (Or.inl (hw _ (List.mem_of_getElem? (i := 55) rfl))) (by decide) (t := .long) (t' := .int) (by decide) (by decide)))
          have F178_9 := Ft.other W178 (Or.inr (slot_ne (Or.inl (hw _ (List.mem_of_getElem? (i := 62) rfl))) (Or.inl (hw _ (List.mem_of_getElem? (i := 55) rfl))) (by decide) (t := .long) (t' := .int) (by decide) (by decide)))
          have A178_q := A.other W178 (Ne.symm nq)
          have N178 := Fr.snoc X178 Nz go
          refine ow_aloadN C X178 d12_52 rfl rfl (pc' := 53) rfl ?_
          refine ow_dup C X178 d12_53 rfl (pc' := 54) rfl ?_
          refine ow_getF C X178 e178 (hw _ (List.mem_of_getElem? (i := 37) rfl)) F178_5 d12_54 (pc' := 57) rfl (fun T179 X179 e179 => ?_)
          refine ow_iconst (1 : Int32) C X179 d12_57 (by decide) (pc' := 58) rfl ?_
          refine ow_isub C X179 d12_58 (pc' := 59) rfl ?_
          rw [own_dec w]
          refine ow_putF C X179 e179 (hw _ (List.mem_of_getElem? (i := 37) rfl)) F178_5 E178_0 (Or.inl (hw _ (List.mem_of_getElem? (i := 38) rfl))) (hw _ (List.mem_of_getElem? (i := 7) rfl)) (ty := .int) (by decide) rfl rfl d12_59 (pc' := 62) rfl (fun T180 h180 X180 e180 W180 => ?_)
          have E180_0 := E178_0.wr W180
          have F180_1 := F178_1.other W180 (Or.inr (slot_ne (Or.inl (hw _ (List.mem_of_getElem? (i := 17) rfl))) (Or.inl (hw _ (List.mem_of_getElem? (i := 38) rfl))) (by decide) (t := (.array .long)) (t' := .int) (by decide) (by decide)))
          have F180_2 := F178_2.other W180 (Or.inr (slot_ne (Or.inl (hw _ (List.mem_of_getElem? (i := 19) rfl))) (Or.inl (hw _ (List.mem_of_getElem? (i := 38) rfl))) (by decide) (t := .int) (t' := .int) (by decide) (by decide)))
          have F180_3 := F178_3.other W180 (Or.inr (slot_ne (Or.inr (hw _ (List.mem_of_getElem? (i := 29) rfl))) (Or.inl (hw _ (List.mem_of_getElem? (i := 38) rfl))) (by decide) (t := .long) (t' := .int) (by decide) (by decide)))
          have F180_4 := F178_4.other W180 (Or.inr (slot_ne (Or.inr (hw _ (List.mem_of_getElem? (i := 31) rfl))) (Or.inl (hw _ (List.mem_of_getElem? (i := 38) rfl))) (by decide) (t := .int) (t' := .int) (by decide) (by decide)))
          have F180_5 := F178_5.same W180
          have F180_6 := F178_6.other W180 (Or.inr (slot_ne (Or.inl (hw _ (List.mem_of_getElem? (i := 55) rfl))) (Or.inl (hw _ (List.mem_of_getElem? (i := 38) rfl))) (by decide) (t := .int) (t' := .int) (by decide) (by decide)))
          have F180_7 := F178_7.other W180 (Or.inr (slot_ne (Or.inl (hw _ (List.mem_of_getElem? (i := 81) rfl))) (Or.inl (hw _ (List.mem_of_getElem? (i := 38) rfl))) (by decide) (t := .long) (t' := .int) (by decide) (by decide)))
          have F180_8 := F178_8.other W180 (Or.inr (slot_ne (Or.inl (hw _ (List.mem_of_getElem? (i := 60) rfl))) (Or.inl (hw _ (List.mem_of_getElem? (i := 38) rfl))) (by decide) (t := .long) (t' := .int) (by decide) (by decide)))
          have F180_9 := F178_9.other W180 (Or.inr (slot_ne (Or.inl (hw _ (List.mem_of_getElem? (i := 62) rfl))) (Or.inl (hw _ (List.mem_of_getElem? (i := 38) rfl))) (by decide) (t := .long) (t' := .int) (by decide) (by decide)))
          have A180_q := A178_q.other W180 (Ne.symm nq)
          have N180 := Fr.snoc X180 N178 go
          refine ow_goto C X180 d12_62 (pcT := 0) (by decide) (by decide) ?_
          exact ih (a + 1) ((a + 1) % n) (Int32.ofNat k) T180 _ _ (by omega) (fun z => Nat.mod_eq_of_lt (by omega)) (fun j hj => by rcases Nat.lt_or_eq_of_le (Nat.le_of_lt_succ hj) with z | z; exact Hd j z; subst z; exact b17) (Or.inr ⟨k, rfl, hp1, by have : a ≠ k := fun z => b28 (by rw [z]); omega, hp3⟩) ⟨E180_0, F180_1, F180_2, F180_3, F180_4, F180_5, F180_6, F180_7, F180_8, F180_9, A180_q, go, gq, nq⟩ N180 X180 e180
        · refine ow_aloadN C X169 d12_31 rfl rfl (pc' := 32) rfl ?_
          refine ow_iconst (-1 : Int32) C X169 d12_32 (by decide) (pc' := 33) rfl ?_
          refine ow_putF C X169 e169 (hw _ (List.mem_of_getElem? (i := 18) rfl)) Fp E (Or.inl (hw _ (List.mem_of_getElem? (i := 19) rfl))) (hw _ (List.mem_of_getElem? (i := 7) rfl)) (ty := .int) (by decide) rfl rfl d12_33 (pc' := 36) rfl (fun T170 h170 X170 e170 W170 => ?_)
          have E170_0 := E.wr W170
          have F170_1 := Fs.other W170 (Or.inr (slot_ne (Or.inl (hw _ (List.mem_of_getElem? (i := 17) rfl))) (Or.inl (hw _ (List.mem_of_getElem? (i := 19) rfl))) (by decide) (t := (.array .long)) (t' := .int) (by decide) (by decide)))
          have F170_2 := Fp.same W170
          have F170_3 := Fe.other W170 (Or.inr (slot_ne (Or.inr (hw _ (List.mem_of_getElem? (i := 29) rfl))) (Or.inl (hw _ (List.mem_of_getElem? (i := 19) rfl))) (by decide) (t := .long) (t' := .int) (by decide) (by decide)))
          have F170_4 := Fm.other W170 (Or.inr (slot_ne (Or.inr (hw _ (List.mem_of_getElem? (i := 31) rfl))) (Or.inl (hw _ (List.mem_of_getElem? (i := 19) rfl))) (by decide) (t := .int) (t' := .int) (by decide) (by decide)))
          have F170_5 := Fu.other W170 (Or.inr (slot_ne (Or.inl (hw _ (List.mem_of_getElem? (i := 38) rfl))) (Or.inl (hw _ (List.mem_of_getElem? (i := 19) rfl))) (by decide) (t := .int) (t' := .int) (by decide) (by decide)))
          have F170_6 := Fo.other W170 (Or.inr (slot_ne (Or.inl (hw _ (List.mem_of_getElem? (i := 55) rfl))) (Or.inl (hw _ (List.mem_of_getElem? (i := 19) rfl))) (by decide) (t := .int) (t' := .int) (by decide) (by decide)))
          have F170_7 := Fq.other W170 (Or.inr (slot_ne (Or.inl (hw _ (List.mem_of_getElem? (i := 81) rfl))) (Or.inl (hw _ (List.mem_of_getElem? (i := 19) rfl))) (by decide) (t := .long) (t' := .int) (by decide) (by decide)))
          have F170_8 := Ff.other W170 (Or.inr (slot_ne (Or.inl (hw _ (List.mem_of_getElem? (i := 60) rfl))) (Or.inl (hw _ (List.mem_of_getElem? (i := 19) rfl))) (by decide) (t := .long) (t' := .int) (by decide) (by decide)))
          have F170_9 := Ft.other W170 (Or.inr (slot_ne (Or.inl (hw _ (List.mem_of_getElem? (i := 62) rfl))) (Or.inl (hw _ (List.mem_of_getElem? (i := 19) rfl))) (by decide) (t := .long) (t' := .int) (by decide) (by decide)))
          have A170_q := A.other W170 (Ne.symm nq)
          have N170 := Fr.snoc X170 Nz go
          refine ow_aloadN C X170 d12_36 rfl rfl (pc' := 37) rfl ?_
          refine ow_aloadN C X170 d12_37 rfl rfl (pc' := 38) rfl ?_
          refine ow_getF C X170 e170 (hw _ (List.mem_of_getElem? (i := 54) rfl)) F170_6 d12_38 (pc' := 41) rfl (fun T171 X171 e171 => ?_)
          refine ow_iconst (1 : Int32) C X171 d12_41 (by decide) (pc' := 42) rfl ?_
          refine ow_iadd C X171 d12_42 (pc' := 43) rfl ?_
          refine ow_aloadN C X171 d12_43 rfl rfl (pc' := 44) rfl ?_
          refine ow_getF C X171 e171 (hw _ (List.mem_of_getElem? (i := 16) rfl)) F170_1 d12_44 (pc' := 47) rfl (fun T172 X172 e172 => ?_)
          refine ow_arraylength C X172 e172 A170_q (z := (Int32.ofNat n)) rfl d12_47 (pc' := 48) rfl ?_
          refine ow_irem C X172 d12_48 (own_nzK hdn hn) (pc' := 49) rfl ?_
          rw [own_oldnx hdn hn]
          refine ow_putF C X172 e172 (hw _ (List.mem_of_getElem? (i := 54) rfl)) F170_6 E170_0 (Or.inl (hw _ (List.mem_of_getElem? (i := 55) rfl))) (hw _ (List.mem_of_getElem? (i := 7) rfl)) (ty := .int) (by decide) rfl rfl d12_49 (pc' := 52) rfl (fun T173 h173 X173 e173 W173 => ?_)
          have E173_0 := E170_0.wr W173
          have F173_1 := F170_1.other W173 (Or.inr (slot_ne (Or.inl (hw _ (List.mem_of_getElem? (i := 17) rfl))) (Or.inl (hw _ (List.mem_of_getElem? (i := 55) rfl))) (by decide) (t := (.array .long)) (t' := .int) (by decide) (by decide)))
          have F173_2 := F170_2.other W173 (Or.inr (slot_ne (Or.inl (hw _ (List.mem_of_getElem? (i := 19) rfl))) (Or.inl (hw _ (List.mem_of_getElem? (i := 55) rfl))) (by decide) (t := .int) (t' := .int) (by decide) (by decide)))
          have F173_3 := F170_3.other W173 (Or.inr (slot_ne (Or.inr (hw _ (List.mem_of_getElem? (i := 29) rfl))) (Or.inl (hw _ (List.mem_of_getElem? (i := 55) rfl))) (by decide) (t := .long) (t' := .int) (by decide) (by decide)))
          have F173_4 := F170_4.other W173 (Or.inr (slot_ne (Or.inr (hw _ (List.mem_of_getElem? (i := 31) rfl))) (Or.inl (hw _ (List.mem_of_getElem? (i := 55) rfl))) (by decide) (t := .int) (t' := .int) (by decide) (by decide)))
          have F173_5 := F170_5.other W173 (Or.inr (slot_ne (Or.inl (hw _ (List.mem_of_getElem? (i := 38) rfl))) (Or.inl (hw _ (List.mem_of_getElem? (i := 55) rfl))) (by decide) (t := .int) (t' := .int) (by decide) (by decide)))
          have F173_6 := F170_6.same W173
          have F173_7 := F170_7.other W173 (Or.inr (slot_ne (Or.inl (hw _ (List.mem_of_getElem? (i := 81) rfl))) (Or.inl (hw _ (List.mem_of_getElem? (i := 55) rfl))) (by decide) (t := .long) (t' := .int) (by decide) (by decide)))
          have F173_8 := F170_8.other W173 (Or.inr (slot_ne (Or.inl (hw _ (List.mem_of_getElem? (i := 60) rfl))) (Or.inl (hw _ (List.mem_of_getElem? (i := 55) rfl))) (by decide) (t := .long) (t' := .int) (by decide) (by decide)))
          have F173_9 := F170_9.other W173 (Or.inr (slot_ne (Or.inl (hw _ (List.mem_of_getElem? (i := 62) rfl))) (Or.inl (hw _ (List.mem_of_getElem? (i := 55) rfl))) (by decide) (t := .long) (t' := .int) (by decide) (by decide)))
          have A173_q := A170_q.other W173 (Ne.symm nq)
          have N173 := Fr.snoc X173 N170 go
          refine ow_aloadN C X173 d12_52 rfl rfl (pc' := 53) rfl ?_
          refine ow_dup C X173 d12_53 rfl (pc' := 54) rfl ?_
          refine ow_getF C X173 e173 (hw _ (List.mem_of_getElem? (i := 37) rfl)) F173_5 d12_54 (pc' := 57) rfl (fun T174 X174 e174 => ?_)
          refine ow_iconst (1 : Int32) C X174 d12_57 (by decide) (pc' := 58) rfl ?_
          refine ow_isub C X174 d12_58 (pc' := 59) rfl ?_
          rw [own_dec w]
          refine ow_putF C X174 e174 (hw _ (List.mem_of_getElem? (i := 37) rfl)) F173_5 E173_0 (Or.inl (hw _ (List.mem_of_getElem? (i := 38) rfl))) (hw _ (List.mem_of_getElem? (i := 7) rfl)) (ty := .int) (by decide) rfl rfl d12_59 (pc' := 62) rfl (fun T175 h175 X175 e175 W175 => ?_)
          have E175_0 := E173_0.wr W175
          have F175_1 := F173_1.other W175 (Or.inr (slot_ne (Or.inl (hw _ (List.mem_of_getElem? (i := 17) rfl))) (Or.inl (hw _ (List.mem_of_getElem? (i := 38) rfl))) (by decide) (t := (.array .long)) (t' := .int) (by decide) (by decide)))
          have F175_2 := F173_2.other W175 (Or.inr (slot_ne (Or.inl (hw _ (List.mem_of_getElem? (i := 19) rfl))) (Or.inl (hw _ (List.mem_of_getElem? (i := 38) rfl))) (by decide) (t := .int) (t' := .int) (by decide) (by decide)))
          have F175_3 := F173_3.other W175 (Or.inr (slot_ne (Or.inr (hw _ (List.mem_of_getElem? (i := 29) rfl))) (Or.inl (hw _ (List.mem_of_getElem? (i := 38) rfl))) (by decide) (t := .long) (t' := .int) (by decide) (by decide)))
          have F175_4 := F173_4.other W175 (Or.inr (slot_ne (Or.inr (hw _ (List.mem_of_getElem? (i := 31) rfl))) (Or.inl (hw _ (List.mem_of_getElem? (i := 38) rfl))) (by decide) (t := .int) (t' := .int) (by decide) (by decide)))
          have F175_5 := F173_5.same W175
          have F175_6 := F173_6.other W175 (Or.inr (slot_ne (Or.inl (hw _ (List.mem_of_getElem? (i := 55) rfl))) (Or.inl (hw _ (List.mem_of_getElem? (i := 38) rfl))) (by decide) (t := .int) (t' := .int) (by decide) (by decide)))
          have F175_7 := F173_7.other W175 (Or.inr (slot_ne (Or.inl (hw _ (List.mem_of_getElem? (i := 81) rfl))) (Or.inl (hw _ (List.mem_of_getElem? (i := 38) rfl))) (by decide) (t := .long) (t' := .int) (by decide) (by decide)))
          have F175_8 := F173_8.other W175 (Or.inr (slot_ne (Or.inl (hw _ (List.mem_of_getElem? (i := 60) rfl))) (Or.inl (hw _ (List.mem_of_getElem? (i := 38) rfl))) (by decide) (t := .long) (t' := .int) (by decide) (by decide)))
          have F175_9 := F173_9.other W175 (Or.inr (slot_ne (Or.inl (hw _ (List.mem_of_getElem? (i := 62) rfl))) (Or.inl (hw _ (List.mem_of_getElem? (i := 38) rfl))) (by decide) (t := .long) (t' := .int) (by decide) (by decide)))
          have A175_q := A173_q.other W175 (Ne.symm nq)
          have N175 := Fr.snoc X175 N173 go
          refine ow_goto C X175 d12_62 (pcT := 0) (by decide) (by decide) ?_
          exact ih (a + 1) ((a + 1) % n) (-1 : Int32) T175 _ _ (by omega) (fun z => Nat.mod_eq_of_lt (by omega)) (fun j hj => by rcases Nat.lt_or_eq_of_le (Nat.le_of_lt_succ hj) with z | z; exact Hd j z; subst z; exact b17) (Or.inl ⟨rfl, by have := (own_eqN (by omega) (by omega)).mp b28; omega⟩) ⟨E175_0, F175_1, F175_2, F175_3, F175_4, F175_5, F175_6, F175_7, F175_8, F175_9, A175_q, go, gq, nq⟩ N175 X175 e175
set_option maxRecDepth 65536 in
set_option maxHeartbeats 40000000 in
theorem rm_at (l : Launch) (Z : State) (a0 : Array Value) (hw : ∀ d ∈ tables_1, d.before a0 Z = true) (o q : Addr) (n : Nat) (f : Nat → Int64) (u : Nat) (nt nf pf per : Int64) (ms : Nat) (now : Int64) (pz : Int) (n0 : Nat) (hun : u ≤ n) (hn : n < 1000000) (pp : Int32) (h0 : Heap) (hp : own_pp pp pz u) (R : OwR Z h0 n0 o q n f 0 u nt nf pp pf per ms) :
    OwCon l (⟨"com/example/calm_valve/calmvalve/AdmissionWindow", "admittedAt", "(J)J"⟩ : MethodName) prog_1_method_2_code 3 (some .long) ({ frames := 1, cells := 0, slots := 0, locals := 60 } : Room) Z #[(.ref o), (.long now)] h0 (fun v h L => ∃ d a pp, d ≤ u ∧ (∀ j, j < d → ¬ (now - own_T u f nt j) < (1000000000 : Int64)) ∧ (d = u ∨ (now - own_T u f nt d) < (1000000000 : Int64)) ∧ own_pd pp pz d u ∧ v = some (.long (own_adm pp per pf (Int32.ofNat (u - d)) nf)) ∧ Fr n0 L ∧ OwR Z h n0 o q n f a (u - d) nt nf pp pf per ms) := by
  refine OwCon.of pn_12 (Ls := #[.val (.ref o), .val (.long now), .second]) (fun m => by first | (simp [entryFrame, mkF, argsToLocals, Value.category]; done) | rfl) ?_
  intro p e s m below meth c s₁ C X0 e0
  refine lp_at l Z a0 hw o q n f u nt nf pf per ms now pz n0 hun hn C ?_ u 0 0 pp s₁ h0 [] (Nat.zero_add u) (fun _ => rfl) (fun j hj => absurd hj (Nat.not_lt_zero j)) (own_pd0 hp) R (Fr.nil n0) X0 e0
  intro d a w pp' Tz hz locs hd Hd He hp' Rz Nz Xz ez
  have Rk := Rz
  obtain ⟨E, Fs, Fp, Fe, Fm, Fu, Fo, Fq, Ff, Ft, A, go, gq, nq⟩ := Rz
  refine ow_aloadN C Xz d12_65 rfl rfl (pc' := 66) rfl ?_
  refine ow_callVP C Xz ez (hw _ (List.mem_of_getElem? (i := 77) rfl)) (hw _ (List.mem_of_getElem? (i := 33) rfl)) (hw _ (List.mem_of_getElem? (i := 35) rfl)) rfl (hw _ (List.mem_of_getElem? (i := 34) rfl)) (hw _ (List.mem_of_getElem? (i := 8) rfl)) (hw _ (List.mem_of_getElem? (i := 36) rfl)) (by decide) E (rm_adm l Z a0 hw o pp' per pf (Int32.ofNat w) nf hz Fp Fe Fq Fu Ff) ⟨rfl, rfl⟩ pd_2 rfl (argsL := []) (rest := []) rfl rfl d12_66 (Nat.le_of_ble_eq_true rfl) (Nat.le_of_ble_eq_true rfl) (Nat.le_of_ble_eq_true rfl) (Nat.le_of_ble_eq_true rfl) (pc' := 69) rfl (fun T181 X181 e181 => ?_)
  refine ow_retJ C X181 d12_69 (Nat.le_of_ble_eq_true rfl) (Nat.le_of_ble_eq_true rfl) ?_
  rw [e181]
  obtain rfl : w = u - d := by omega
  exact ⟨d, a, pp', by omega, Hd, He, hp', rfl, Nz, Rk⟩
theorem pn_0 : plainFor (⟨"com/example/calm_valve/calmvalve/AdmissionWindowAdmittedPinLaw", "law", "(JJJJJJ)Z"⟩ : MethodName) = true := by first | exact plainFor_of_name (by first | (simp [plainName, overriddenIn]; done) | decide +kernel) | decide +kernel
theorem pd_8 : parseMethodDescriptor "(JJJJJJ)Z" = some ⟨[.long, .long, .long, .long, .long, .long], (some .boolean)⟩ := by decide +kernel
set_option maxRecDepth 65536 in
set_option maxHeartbeats 40000000 in
theorem rm_law1 (l : Launch) (Z : State) (a0 : Array Value) (hw : ∀ d ∈ tables_1, d.before a0 Z = true) (q0 q1 q2 q3 q4 q5 x la lb lc t0 th t1 t2 now pl tot per : Int64) (ms : Nat) (hx_ : ((1 : Int64) + (q0 &&& (4611686018427387903 : Int64))) = x) (ha_ : ((q1 &&& (9223372036854775807 : Int64)) - ((q1 &&& (9223372036854775807 : Int64)) / (x + (1 : Int64))) * (x + (1 : Int64))) = la) (hb_ : ((q2 &&& (9223372036854775807 : Int64)) - ((q2 &&& (9223372036854775807 : Int64)) / ((x - la) + (1 : Int64))) * ((x - la) + (1 : Int64))) = lb) (hc_ : ((q3 &&& (9223372036854775807 : Int64)) - ((q3 &&& (9223372036854775807 : Int64)) / (((x - la) - lb) + (1 : Int64))) * (((x - la) - lb) + (1 : Int64))) = lc) (ht0 : (q4 >>> ((31 : Int32).toInt64 &&& 63)) = t0) (hth : (q4 &&& (2147483647 : Int64)) = th) (ht1 : (t0 + (q5 &&& (1073741823 : Int64))) = t1) (ht2 : (t1 + ((XT.ushrL q5 (30 : Int32)) &&& (1073741823 : Int64))) = t2) (hnow : (t2 + th) = now) (hpl_ : ((x + (299 : Int64)) / (300 : Int64)) = pl) (htot : ((la + lb) + lc) = tot) (hper : own_per x = per) (hmsn : own_msn x = ms) (h0 : Heap) (n0 : Nat) (Z0 : n0 ≤ h0.size) :
    OwCon l (⟨"com/example/calm_valve/calmvalve/AdmissionWindowAdmittedPinLaw", "law", "(JJJJJJ)Z"⟩ : MethodName) code maxLocals ret room_1 Z #[(.long q0), (.long q1), (.long q2), (.long q3), (.long q4), (.long q5)] h0 (fun v h L => v = some (.int 1) ∧ Fr n0 L) := by
  have z0 : (0 : Int64).toInt = 0 := by decide
  have c1 : (1 : Int64).toInt = 1 := by decide
  obtain ⟨⟨hx1, hx2, ia, ib, ic, isum, ipl⟩, hy1, hy2, hy3⟩ := own_amounts hx_ ha_ hb_ hc_ hpl_
  have iper := own_perI hx1 hx2
  rw [hper] at iper
  have hP : 1 ≤ per.toInt := by omega
  have hPle : per.toInt ≤ 4611686018427387904 := by omega
  have ims := own_msI hx1 hx2
  rw [hper, hmsn] at ims
  obtain ⟨hm2, hms, hLim, -⟩ := ims
  have k30 : (1073741823 : Int64).toInt = 1073741823 := by decide
  have k31 : (2147483647 : Int64).toInt = 2147483647 := by decide
  have i1 := own_andI q5 (1073741823 : Int64) (by rw [k30]; omega)
  have i2 := own_andI (XT.ushrL q5 (30 : Int32)) (1073741823 : Int64) (by rw [k30]; omega)
  have i3 := own_andI q4 (2147483647 : Int64) (by rw [k31]; omega)
  rw [k30] at i1 i2
  rw [k31, hth] at i3
  have mt := own_times ht0 i1 i2 i3 ht1 ht2 hnow
  have s2 : (la + lb).toInt = la.toInt + lb.toInt := own_addI ia ib (by omega)
  have s3 : tot.toInt = la.toInt + lb.toInt + lc.toInt := by rw [← htot]; exact own_sum3 ia ib ic (by omega)
  refine OwCon.of pn_0 (Ls := #[.val (.long q0), .second, .val (.long q1), .second, .val (.long q2), .second, .val (.long q3), .second, .val (.long q4), .second, .val (.long q5), .second, .unset, .unset, .unset, .unset, .unset, .unset, .unset, .unset, .unset, .unset, .unset, .unset, .unset, .unset, .unset, .unset, .unset, .unset, .unset, .unset, .unset, .unset, .unset, .unset, .unset, .unset, .unset, .unset, .unset, .unset]) (fun m => by first | (simp [entryFrame, mkF, argsToLocals, Value.category, maxLocals]; done) | rfl) ?_
  intro p e s m below meth c s₁ C X0 e0
  refine ow_lconst (1 : Int64) C X0 at_0 (by decide) (pc' := 1) rfl ?_
  refine ow_lloadN C X0 at_1 rfl (pc' := 2) rfl ?_
  refine ow_ldc2 C X0 (hw _ (List.mem_of_getElem? (i := 0) rfl)) at_2 (pc' := 5) rfl ?_
  refine ow_land C X0 at_5 (pc' := 6) rfl ?_
  refine ow_ladd C X0 at_6 (pc' := 7) rfl ?_
  rw [hx_]
  refine ow_lstore C X0 at_7 (Ls' := #[.val (.long q0), .second, .val (.long q1), .second, .val (.long q2), .second, .val (.long q3), .second, .val (.long q4), .second, .val (.long q5), .second, .val (.long x), .second, .unset, .unset, .unset, .unset, .unset, .unset, .unset, .unset, .unset, .unset, .unset, .unset, .unset, .unset, .unset, .unset, .unset, .unset, .unset, .unset, .unset, .unset, .unset, .unset, .unset, .unset, .unset, .unset]) rfl (pc' := 9) rfl ?_
  refine ow_lloadN C X0 at_9 rfl (pc' := 10) rfl ?_
  refine ow_ldc2 C X0 (hw _ (List.mem_of_getElem? (i := 1) rfl)) at_10 (pc' := 13) rfl ?_
  refine ow_land C X0 at_13 (pc' := 14) rfl ?_
  refine ow_lload C X0 at_14 rfl (pc' := 16) rfl ?_
  refine ow_lconst (1 : Int64) C X0 at_16 (by decide) (pc' := 17) rfl ?_
  refine ow_ladd C X0 at_17 (pc' := 18) rfl ?_
  refine ow_lrem C X0 at_18 hy1 (pc' := 19) rfl ?_
  rw [ha_]
  refine ow_lstore C X0 at_19 (Ls' := #[.val (.long q0), .second, .val (.long q1), .second, .val (.long q2), .second, .val (.long q3), .second, .val (.long q4), .second, .val (.long q5), .second, .val (.long x), .second, .val (.long la), .second, .unset, .unset, .unset, .unset, .unset, .unset, .unset, .unset, .unset, .unset, .unset, .unset, .unset, .unset, .unset, .unset, .unset, .unset, .unset, .unset, .unset, .unset, .unset, .unset, .unset, .unset]) rfl (pc' := 21) rfl ?_
  refine ow_lload C X0 at_21 rfl (pc' := 23) rfl ?_
  refine ow_ldc2 C X0 (hw _ (List.mem_of_getElem? (i := 1) rfl)) at_23 (pc' := 26) rfl ?_
  refine ow_land C X0 at_26 (pc' := 27) rfl ?_
  refine ow_lload C X0 at_27 rfl (pc' := 29) rfl ?_
  refine ow_lload C X0 at_29 rfl (pc' := 31) rfl ?_
  refine ow_lsub C X0 at_31 (pc' := 32) rfl ?_
  refine ow_lconst (1 : Int64) C X0 at_32 (by decide) (pc' := 33) rfl ?_
  refine ow_ladd C X0 at_33 (pc' := 34) rfl ?_
  refine ow_lrem C X0 at_34 hy2 (pc' := 35) rfl ?_
  rw [hb_]
  refine ow_lstore C X0 at_35 (Ls' := #[.val (.long q0), .second, .val (.long q1), .second, .val (.long q2), .second, .val (.long q3), .second, .val (.long q4), .second, .val (.long q5), .second, .val (.long x), .second, .val (.long la), .second, .val (.long lb), .second, .unset, .unset, .unset, .unset, .unset, .unset, .unset, .unset, .unset, .unset, .unset, .unset, .unset, .unset, .unset, .unset, .unset, .unset, .unset, .unset, .unset, .unset, .unset, .unset]) rfl (pc' := 37) rfl ?_
  refine ow_lload C X0 at_37 rfl (pc' := 39) rfl ?_
  refine ow_ldc2 C X0 (hw _ (List.mem_of_getElem? (i := 1) rfl)) at_39 (pc' := 42) rfl ?_
  refine ow_land C X0 at_42 (pc' := 43) rfl ?_
  refine ow_lload C X0 at_43 rfl (pc' := 45) rfl ?_
  refine ow_lload C X0 at_45 rfl (pc' := 47) rfl ?_
  refine ow_lsub C X0 at_47 (pc' := 48) rfl ?_
  refine ow_lload C X0 at_48 rfl (pc' := 50) rfl ?_
  refine ow_lsub C X0 at_50 (pc' := 51) rfl ?_
  refine ow_lconst (1 : Int64) C X0 at_51 (by decide) (pc' := 52) rfl ?_
  refine ow_ladd C X0 at_52 (pc' := 53) rfl ?_
  refine ow_lrem C X0 at_53 hy3 (pc' := 54) rfl ?_
  rw [hc_]
  refine ow_lstore C X0 at_54 (Ls' := #[.val (.long q0), .second, .val (.long q1), .second, .val (.long q2), .second, .val (.long q3), .second, .val (.long q4), .second, .val (.long q5), .second, .val (.long x), .second, .val (.long la), .second, .val (.long lb), .second, .val (.long lc), .second, .unset, .unset, .unset, .unset, .unset, .unset, .unset, .unset, .unset, .unset, .unset, .unset, .unset, .unset, .unset, .unset, .unset, .unset, .unset, .unset, .unset, .unset]) rfl (pc' := 56) rfl ?_
  refine ow_lload C X0 at_56 rfl (pc' := 58) rfl ?_
  refine ow_bipush (31 : Int32) C X0 at_58 (by decide) (pc' := 60) rfl ?_
  refine ow_lshr C X0 at_60 (pc' := 61) rfl ?_
  rw [ht0]
  refine ow_lstore C X0 at_61 (Ls' := #[.val (.long q0), .second, .val (.long q1), .second, .val (.long q2), .second, .val (.long q3), .second, .val (.long q4), .second, .val (.long q5), .second, .val (.long x), .second, .val (.long la), .second, .val (.long lb), .second, .val (.long lc), .second, .val (.long t0), .second, .unset, .unset, .unset, .unset, .unset, .unset, .unset, .unset, .unset, .unset, .unset, .unset, .unset, .unset, .unset, .unset, .unset, .unset, .unset, .unset]) rfl (pc' := 63) rfl ?_
  refine ow_lload C X0 at_63 rfl (pc' := 65) rfl ?_
  refine ow_ldc2 C X0 (hw _ (List.mem_of_getElem? (i := 2) rfl)) at_65 (pc' := 68) rfl ?_
  refine ow_land C X0 at_68 (pc' := 69) rfl ?_
  rw [hth]
  refine ow_lstore C X0 at_69 (Ls' := #[.val (.long q0), .second, .val (.long q1), .second, .val (.long q2), .second, .val (.long q3), .second, .val (.long q4), .second, .val (.long q5), .second, .val (.long x), .second, .val (.long la), .second, .val (.long lb), .second, .val (.long lc), .second, .val (.long t0), .second, .val (.long th), .second, .unset, .unset, .unset, .unset, .unset, .unset, .unset, .unset, .unset, .unset, .unset, .unset, .unset, .unset, .unset, .unset, .unset, .unset]) rfl (pc' := 71) rfl ?_
  refine ow_lload C X0 at_71 rfl (pc' := 73) rfl ?_
  refine ow_lload C X0 at_73 rfl (pc' := 75) rfl ?_
  refine ow_ldc2 C X0 (hw _ (List.mem_of_getElem? (i := 3) rfl)) at_75 (pc' := 78) rfl ?_
  refine ow_land C X0 at_78 (pc' := 79) rfl ?_
  refine ow_ladd C X0 at_79 (pc' := 80) rfl ?_
  rw [ht1]
  refine ow_lstore C X0 at_80 (Ls' := #[.val (.long q0), .second, .val (.long q1), .second, .val (.long q2), .second, .val (.long q3), .second, .val (.long q4), .second, .val (.long q5), .second, .val (.long x), .second, .val (.long la), .second, .val (.long lb), .second, .val (.long lc), .second, .val (.long t0), .second, .val (.long th), .second, .val (.long t1), .second, .unset, .unset, .unset, .unset, .unset, .unset, .unset, .unset, .unset, .unset, .unset, .unset, .unset, .unset, .unset, .unset]) rfl (pc' := 82) rfl ?_
  refine ow_lload C X0 at_82 rfl (pc' := 84) rfl ?_
  refine ow_lload C X0 at_84 rfl (pc' := 86) rfl ?_
  refine ow_bipush (30 : Int32) C X0 at_86 (by decide) (pc' := 88) rfl ?_
  refine ow_lushr C X0 at_88 (pc' := 89) rfl ?_
  refine ow_ldc2 C X0 (hw _ (List.mem_of_getElem? (i := 3) rfl)) at_89 (pc' := 92) rfl ?_
  refine ow_land C X0 at_92 (pc' := 93) rfl ?_
  refine ow_ladd C X0 at_93 (pc' := 94) rfl ?_
  rw [ht2]
  refine ow_lstore C X0 at_94 (Ls' := #[.val (.long q0), .second, .val (.long q1), .second, .val (.long q2), .second, .val (.long q3), .second, .val (.long q4), .second, .val (.long q5), .second, .val (.long x), .second, .val (.long la), .second, .val (.long lb), .second, .val (.long lc), .second, .val (.long t0), .second, .val (.long th), .second, .val (.long t1), .second, .val (.long t2), .second, .unset, .unset, .unset, .unset, .unset, .unset, .unset, .unset, .unset, .unset, .unset, .unset, .unset, .unset]) rfl (pc' := 96) rfl ?_
  refine ow_lload C X0 at_96 rfl (pc' := 98) rfl ?_
  refine ow_lload C X0 at_98 rfl (pc' := 100) rfl ?_
  refine ow_ladd C X0 at_100 (pc' := 101) rfl ?_
  rw [hnow]
  refine ow_lstore C X0 at_101 (Ls' := #[.val (.long q0), .second, .val (.long q1), .second, .val (.long q2), .second, .val (.long q3), .second, .val (.long q4), .second, .val (.long q5), .second, .val (.long x), .second, .val (.long la), .second, .val (.long lb), .second, .val (.long lc), .second, .val (.long t0), .second, .val (.long th), .second, .val (.long t1), .second, .val (.long t2), .second, .val (.long now), .second, .unset, .unset, .unset, .unset, .unset, .unset, .unset, .unset, .unset, .unset, .unset, .unset]) rfl (pc' := 103) rfl ?_
  refine ow_lload C X0 at_103 rfl (pc' := 105) rfl ?_
  refine ow_ldc2 C X0 (hw _ (List.mem_of_getElem? (i := 4) rfl)) at_105 (pc' := 108) rfl ?_
  refine ow_ladd C X0 at_108 (pc' := 109) rfl ?_
  refine ow_ldc2 C X0 (hw _ (List.mem_of_getElem? (i := 5) rfl)) at_109 (pc' := 112) rfl ?_
  refine ow_ldiv C X0 at_112 (by decide) (pc' := 113) rfl ?_
  rw [hpl_]
  refine ow_lstore C X0 at_113 (Ls' := #[.val (.long q0), .second, .val (.long q1), .second, .val (.long q2), .second, .val (.long q3), .second, .val (.long q4), .second, .val (.long q5), .second, .val (.long x), .second, .val (.long la), .second, .val (.long lb), .second, .val (.long lc), .second, .val (.long t0), .second, .val (.long th), .second, .val (.long t1), .second, .val (.long t2), .second, .val (.long now), .second, .val (.long pl), .second, .unset, .unset, .unset, .unset, .unset, .unset, .unset, .unset, .unset, .unset]) rfl (pc' := 115) rfl ?_
  refine ow_new C X0 e0 (hw _ (List.mem_of_getElem? (i := 6) rfl)) (hw _ (List.mem_of_getElem? (i := 7) rfl)) (hw _ (List.mem_of_getElem? (i := 8) rfl)) at_115 (Nat.le_of_ble_eq_true rfl) (Nat.le_of_ble_eq_true rfl) (pc' := 118) rfl (fun T182 h182 a182 g182 X182 e182 Ex182 A182 D182 => ?_)
  have Ge182 : n0 ≤ a182 := Nat.le_trans Z0 (Nat.le_of_eq g182.symm)
  have Z182 : n0 ≤ h182.size := Nat.le_trans Z0 Ex182.1
  have Fn182_0 : Fld Z h182 a182 "com/example/calm_valve/calmvalve/AdmissionWindow" "m_aSlotTimes" "[J" .null := D182 (Or.inl (hw _ (List.mem_of_getElem? (i := 17) rfl))) (ty := (.array .long)) (by decide)
  have Fn182_1 : Fld Z h182 a182 "com/example/calm_valve/calmvalve/AdmissionWindow" "m_nPartial" "I" (.int (0 : Int32)) := D182 (Or.inl (hw _ (List.mem_of_getElem? (i := 19) rfl))) (ty := .int) (by decide)
  have Fn182_2 : Fld Z h182 a182 "com/example/calm_valve/calmvalve/AdmissionWindow" "m_nPerSlot" "J" (.long (0 : Int64)) := D182 (Or.inr (hw _ (List.mem_of_getElem? (i := 29) rfl))) (ty := .long) (by decide)
  have Fn182_3 : Fld Z h182 a182 "com/example/calm_valve/calmvalve/AdmissionWindow" "m_nMaxSlots" "I" (.int (0 : Int32)) := D182 (Or.inr (hw _ (List.mem_of_getElem? (i := 31) rfl))) (ty := .int) (by decide)
  have Fn182_4 : Fld Z h182 a182 "com/example/calm_valve/calmvalve/AdmissionWindow" "m_nUsed" "I" (.int (0 : Int32)) := D182 (Or.inl (hw _ (List.mem_of_getElem? (i := 38) rfl))) (ty := .int) (by decide)
  have Fn182_5 : Fld Z h182 a182 "com/example/calm_valve/calmvalve/AdmissionWindow" "m_nOldest" "I" (.int (0 : Int32)) := D182 (Or.inl (hw _ (List.mem_of_getElem? (i := 55) rfl))) (ty := .int) (by decide)
  have Fn182_6 : Fld Z h182 a182 "com/example/calm_valve/calmvalve/AdmissionWindow" "m_nNewestFill" "J" (.long (0 : Int64)) := D182 (Or.inl (hw _ (List.mem_of_getElem? (i := 60) rfl))) (ty := .long) (by decide)
  have Fn182_7 : Fld Z h182 a182 "com/example/calm_valve/calmvalve/AdmissionWindow" "m_nNewestTime" "J" (.long (0 : Int64)) := D182 (Or.inl (hw _ (List.mem_of_getElem? (i := 62) rfl))) (ty := .long) (by decide)
  have Fn182_8 : Fld Z h182 a182 "com/example/calm_valve/calmvalve/AdmissionWindow" "m_nPartialFill" "J" (.long (0 : Int64)) := D182 (Or.inl (hw _ (List.mem_of_getElem? (i := 81) rfl))) (ty := .long) (by decide)
  refine ow_dup C X182 at_118 rfl (pc' := 119) rfl ?_
  refine ow_lload C X182 at_119 rfl (pc' := 121) rfl ?_
  refine ow_callN C X182 e182 rfl (hw _ (List.mem_of_getElem? (i := 9) rfl)) (hw _ (List.mem_of_getElem? (i := 10) rfl)) (hw _ (List.mem_of_getElem? (i := 8) rfl)) (hw _ (List.mem_of_getElem? (i := 11) rfl)) (by decide) (rm_init l Z a0 hw a182 x hx1 hx2 h182 n0 Z182 A182 Ge182 Fn182_0 Fn182_1 Fn182_2 Fn182_3 Fn182_4 Fn182_5 Fn182_8 Fn182_6 Fn182_7) pd_3 rfl (argsL := [(.long x)]) (rest := [(.ref a182)]) rfl rfl at_121 (Nat.le_of_ble_eq_true rfl) (Nat.le_of_ble_eq_true rfl) (by first | exact (Nat.le_of_ble_eq_true rfl) | exact cz30 | exact cz20 | exact cz10 | exact cz21 | exact cz11) (by first | exact (Nat.le_of_ble_eq_true rfl) | exact sz30 | exact sz20 | exact sz10 | exact sz21 | exact sz11) (pc' := 124) rfl (fun T183 v183 L183 X183 Q183 => ?_)
  obtain ⟨rfl, N183, K183, qi, hqi, Ri⟩ := Q183
  rw [hper, hmsn] at Ri
  have Rki := Ri
  obtain ⟨Ei, Fsi, Fpi, Fei, Fmi, Fui, Foi, Fqi, Ffi, Fti, Ai, goi, gqi, nqi⟩ := Ri
  have Nn183 := Fr.app (Fr.nil n0) N183
  have Ui : OwU 0 ms 0 0 := Or.inl ⟨rfl, rfl, rfl⟩
  have hpi : own_pp (-1) (-1) 0 := Or.inl ⟨rfl, rfl⟩
  have Vi : OwV per.toInt 0 ms 0 (0 : Int64).toInt (0 : Int64).toInt (-1) := by rw [z0]; exact own_V0
  have Hi : own_G per.toInt 0 (0 : Int64).toInt (0 : Int64).toInt (-1) 0 = 0 := own_Gz (Nat.le_refl 0)
  show OwF p e below _ T183 (mkF m 124 #[.val (.long q0), .second, .val (.long q1), .second, .val (.long q2), .second, .val (.long q3), .second, .val (.long q4), .second, .val (.long q5), .second, .val (.long x), .second, .val (.long la), .second, .val (.long lb), .second, .val (.long lc), .second, .val (.long t0), .second, .val (.long th), .second, .val (.long t1), .second, .val (.long t2), .second, .val (.long now), .second, .val (.long pl), .second, .unset, .unset, .unset, .unset, .unset, .unset, .unset, .unset, .unset, .unset] [(.ref a182)])
  refine ow_astore C X183 at_124 rfl (Ls' := #[.val (.long q0), .second, .val (.long q1), .second, .val (.long q2), .second, .val (.long q3), .second, .val (.long q4), .second, .val (.long q5), .second, .val (.long x), .second, .val (.long la), .second, .val (.long lb), .second, .val (.long lc), .second, .val (.long t0), .second, .val (.long th), .second, .val (.long t1), .second, .val (.long t2), .second, .val (.long now), .second, .val (.long pl), .second, .val (.ref a182), .unset, .unset, .unset, .unset, .unset, .unset, .unset, .unset, .unset]) rfl (pc' := 126) rfl ?_
  refine ow_aload C X183 at_126 rfl rfl (pc' := 128) rfl ?_
  refine ow_callVP C X183 rfl (hw _ (List.mem_of_getElem? (i := 32) rfl)) (hw _ (List.mem_of_getElem? (i := 33) rfl)) (hw _ (List.mem_of_getElem? (i := 35) rfl)) rfl (hw _ (List.mem_of_getElem? (i := 34) rfl)) (hw _ (List.mem_of_getElem? (i := 8) rfl)) (hw _ (List.mem_of_getElem? (i := 36) rfl)) (by decide) Ei (rm_adm l Z a0 hw a182 (-1 : Int32) per (0 : Int64) (Int32.ofNat 0) (0 : Int64) T183.heap Fpi Fei Fqi Fui Ffi) ⟨rfl, rfl⟩ pd_2 rfl (argsL := []) (rest := []) rfl rfl at_128 (Nat.le_of_ble_eq_true rfl) (Nat.le_of_ble_eq_true rfl) (by first | exact (Nat.le_of_ble_eq_true rfl) | exact cz30 | exact cz20 | exact cz10 | exact cz21 | exact cz11) (by first | exact (Nat.le_of_ble_eq_true rfl) | exact sz30 | exact sz20 | exact sz10 | exact sz21 | exact sz11) (pc' := 131) rfl (fun T184 X184 e184 => ?_)
  rw [show own_adm (-1 : Int32) per (0 : Int64) (Int32.ofNat 0) (0 : Int64) = (0 : Int64) from if_pos rfl]
  refine ow_lconst (0 : Int64) C X184 at_131 (by decide) (pc' := 132) rfl ?_
  refine ow_lcmp C X184 at_132 (pc' := 133) rfl ?_
  refine ow_lif_ne C X184 at_133 (pcT := 140) (pc' := 136) (by decide) (by decide) rfl (fun bq => absurd rfl bq) (fun _ => ?_)
  refine ow_iconst (1 : Int32) C X184 at_136 (by decide) (pc' := 137) rfl ?_
  refine ow_goto C X184 at_137 (pcT := 141) (by decide) (by decide) ?_
  refine ow_istore C X184 at_141 (Ls' := #[.val (.long q0), .second, .val (.long q1), .second, .val (.long q2), .second, .val (.long q3), .second, .val (.long q4), .second, .val (.long q5), .second, .val (.long x), .second, .val (.long la), .second, .val (.long lb), .second, .val (.long lc), .second, .val (.long t0), .second, .val (.long th), .second, .val (.long t1), .second, .val (.long t2), .second, .val (.long now), .second, .val (.long pl), .second, .val (.ref a182), .val (.int (1 : Int32)), .unset, .unset, .unset, .unset, .unset, .unset, .unset, .unset]) rfl (pc' := 143) rfl ?_
  refine ow_aload C X184 at_143 rfl rfl (pc' := 145) rfl ?_
  refine ow_lload C X184 at_145 rfl (pc' := 147) rfl ?_
  refine ow_lload C X184 at_147 rfl (pc' := 149) rfl ?_
  have J0 := own_begin (t := t0) (N := la) (f := (fun _ => 0)) (nt := (0 : Int64)) (Lim := x.toInt) Ui hpi Vi hP (by omega) (by rw [Hi]; omega)
  refine ow_callVE C X184 e184 (hw _ (List.mem_of_getElem? (i := 39) rfl)) (hw _ (List.mem_of_getElem? (i := 40) rfl)) (hw _ (List.mem_of_getElem? (i := 42) rfl)) rfl (hw _ (List.mem_of_getElem? (i := 41) rfl)) (hw _ (List.mem_of_getElem? (i := 8) rfl)) (hw _ (List.mem_of_getElem? (i := 43) rfl)) (by decide) Ei (rm_add l Z a0 hw a182 t0 la per ms n0 x.toInt 0 (own_T 0 (fun _ => 0) (0 : Int64)) (own_G per.toInt 0 (0 : Int64).toInt (0 : Int64).toInt (-1)) 0 0 hP hLim hm2 hms qi 0 (fun _ => 0) 0 (0 : Int64) (0 : Int64) (-1 : Int32) (0 : Int64) T183.heap Rki J0) pd_6 rfl (argsL := [(.long t0), (.long la)]) (rest := []) rfl rfl at_149 (Nat.le_of_ble_eq_true rfl) (Nat.le_of_ble_eq_true rfl) (by first | exact (Nat.le_of_ble_eq_true rfl) | exact cz30 | exact cz20 | exact cz10 | exact cz21 | exact cz11) (by first | exact (Nat.le_of_ble_eq_true rfl) | exact sz30 | exact sz20 | exact sz10 | exact sz21 | exact sz11) (pc' := 152) rfl (fun T185 v185 L185 kc185 ks185 X185 Q185 => ?_)
  obtain ⟨rfl, N185, qz1, nz1, fz1, uz1, ntz1, nfz1, ppz1, pfz1, Rz1, Jz1⟩ := Q185
  obtain ⟨Uz1, pz1, hpz1, AAz1, gz1⟩ := own_next Jz1
  have Hz1 : own_G per.toInt uz1 nfz1.toInt pfz1.toInt pz1 0 = la.toInt := by rw [gz1, Hi]; omega
  have Bz1 := Uz1.bd hms
  have cz10 : 2 + kc185 ≤ 32 := by omega
  have cz11 : 2 + kc185 + 8 ≤ 32 := by omega
  have sz10 : 11 + ks185 ≤ 1728 := by omega
  have sz11 : 11 + ks185 + (903 - (0 + ks185)) ≤ 1728 := by omega
  have Rkz1 := Rz1
  obtain ⟨Ez1, Fsz1, Fpz1, Fez1, Fmz1, Fuz1, Foz1, Fqz1, Ffz1, Ftz1, Az1, goz1, gqz1, nqz1⟩ := Rz1
  have Nn185 := Fr.app Nn183 N185
  show OwF p e below _ T185 (mkF m 152 #[.val (.long q0), .second, .val (.long q1), .second, .val (.long q2), .second, .val (.long q3), .second, .val (.long q4), .second, .val (.long q5), .second, .val (.long x), .second, .val (.long la), .second, .val (.long lb), .second, .val (.long lc), .second, .val (.long t0), .second, .val (.long th), .second, .val (.long t1), .second, .val (.long t2), .second, .val (.long now), .second, .val (.long pl), .second, .val (.ref a182), .val (.int (1 : Int32)), .unset, .unset, .unset, .unset, .unset, .unset, .unset, .unset] [])
  refine ow_iload C X185 at_152 rfl (pc' := 154) rfl ?_
  refine ow_if_eq C X185 at_154 (pcT := 172) (pc' := 157) (by decide) (by decide) rfl (fun bq => absurd bq (by decide)) (fun _ => ?_)
  refine ow_aload C X185 at_157 rfl rfl (pc' := 159) rfl ?_
  refine ow_callVP C X185 rfl (hw _ (List.mem_of_getElem? (i := 32) rfl)) (hw _ (List.mem_of_getElem? (i := 33) rfl)) (hw _ (List.mem_of_getElem? (i := 35) rfl)) rfl (hw _ (List.mem_of_getElem? (i := 34) rfl)) (hw _ (List.mem_of_getElem? (i := 8) rfl)) (hw _ (List.mem_of_getElem? (i := 36) rfl)) (by decide) Ez1 (rm_adm l Z a0 hw a182 ppz1 per pfz1 (Int32.ofNat uz1) nfz1 T185.heap Fpz1 Fez1 Fqz1 Fuz1 Ffz1) ⟨rfl, rfl⟩ pd_2 rfl (argsL := []) (rest := []) rfl rfl at_159 (Nat.le_of_ble_eq_true rfl) (Nat.le_of_ble_eq_true rfl) (by first | exact (Nat.le_of_ble_eq_true rfl) | exact cz30 | exact cz20 | exact cz10 | exact cz21 | exact cz11) (by first | exact (Nat.le_of_ble_eq_true rfl) | exact sz30 | exact sz20 | exact sz10 | exact sz21 | exact sz11) (pc' := 162) rfl (fun T186 X186 e186 => ?_)
  rw [show own_adm ppz1 per pfz1 (Int32.ofNat uz1) nfz1 = la from own_adm0 AAz1.1 hpz1 hms hPle (by rw [Hz1]) (by omega)]
  refine ow_lload C X186 at_162 rfl (pc' := 164) rfl ?_
  refine ow_lcmp C X186 at_164 (pc' := 165) rfl ?_
  refine ow_lif_ne C X186 at_165 (pcT := 172) (pc' := 168) (by decide) (by decide) rfl (fun bq => absurd rfl bq) (fun _ => ?_)
  refine ow_iconst (1 : Int32) C X186 at_168 (by decide) (pc' := 169) rfl ?_
  refine ow_goto C X186 at_169 (pcT := 173) (by decide) (by decide) ?_
  refine ow_istore C X186 at_173 (Ls' := #[.val (.long q0), .second, .val (.long q1), .second, .val (.long q2), .second, .val (.long q3), .second, .val (.long q4), .second, .val (.long q5), .second, .val (.long x), .second, .val (.long la), .second, .val (.long lb), .second, .val (.long lc), .second, .val (.long t0), .second, .val (.long th), .second, .val (.long t1), .second, .val (.long t2), .second, .val (.long now), .second, .val (.long pl), .second, .val (.ref a182), .val (.int (1 : Int32)), .unset, .unset, .unset, .unset, .unset, .unset, .unset, .unset]) rfl (pc' := 175) rfl ?_
  refine ow_aload C X186 at_175 rfl rfl (pc' := 177) rfl ?_
  refine ow_lload C X186 at_177 rfl (pc' := 179) rfl ?_
  refine ow_lload C X186 at_179 rfl (pc' := 181) rfl ?_
  have J1 := own_begin (t := t1) (N := lb) (f := fz1) (nt := ntz1) (Lim := x.toInt) Uz1 hpz1 AAz1.1 hP (by omega) (by rw [Hz1]; omega)
  refine ow_callVE C X186 e186 (hw _ (List.mem_of_getElem? (i := 39) rfl)) (hw _ (List.mem_of_getElem? (i := 40) rfl)) (hw _ (List.mem_of_getElem? (i := 42) rfl)) rfl (hw _ (List.mem_of_getElem? (i := 41) rfl)) (hw _ (List.mem_of_getElem? (i := 8) rfl)) (hw _ (List.mem_of_getElem? (i := 43) rfl)) (by decide) Ez1 (rm_add l Z a0 hw a182 t1 lb per ms n0 x.toInt uz1 (own_T uz1 fz1 ntz1) (own_G per.toInt uz1 nfz1.toInt pfz1.toInt pz1) (0 + kc185) (0 + ks185) hP hLim hm2 hms qz1 nz1 fz1 uz1 ntz1 nfz1 ppz1 pfz1 T185.heap Rkz1 J1) pd_6 rfl (argsL := [(.long t1), (.long lb)]) (rest := []) rfl rfl at_181 (Nat.le_of_ble_eq_true rfl) (Nat.le_of_ble_eq_true rfl) (by first | exact (Nat.le_of_ble_eq_true rfl) | exact cz30 | exact cz20 | exact cz10 | exact cz21 | exact cz11) (by first | exact (Nat.le_of_ble_eq_true rfl) | exact sz30 | exact sz20 | exact sz10 | exact sz21 | exact sz11) (pc' := 184) rfl (fun T187 v187 L187 kc187 ks187 X187 Q187 => ?_)
  obtain ⟨rfl, N187, qz2, nz2, fz2, uz2, ntz2, nfz2, ppz2, pfz2, Rz2, Jz2⟩ := Q187
  obtain ⟨Uz2, pz2, hpz2, AAz2, gz2⟩ := own_next Jz2
  have Hz2 : own_G per.toInt uz2 nfz2.toInt pfz2.toInt pz2 0 = la.toInt + lb.toInt := by rw [gz2, Hz1]
  have Bz2 := Uz2.bd hms
  have cz20 : 2 + kc185 + kc187 ≤ 32 := by omega
  have cz21 : 2 + kc185 + kc187 + 8 ≤ 32 := by omega
  have sz20 : 11 + ks185 + ks187 ≤ 1728 := by omega
  have sz21 : 11 + ks185 + ks187 + (903 - ((0 + ks185) + ks187)) ≤ 1728 := by omega
  have Rkz2 := Rz2
  obtain ⟨Ez2, Fsz2, Fpz2, Fez2, Fmz2, Fuz2, Foz2, Fqz2, Ffz2, Ftz2, Az2, goz2, gqz2, nqz2⟩ := Rz2
  have Nn187 := Fr.app Nn185 N187
  show OwF p e below _ T187 (mkF m 184 #[.val (.long q0), .second, .val (.long q1), .second, .val (.long q2), .second, .val (.long q3), .second, .val (.long q4), .second, .val (.long q5), .second, .val (.long x), .second, .val (.long la), .second, .val (.long lb), .second, .val (.long lc), .second, .val (.long t0), .second, .val (.long th), .second, .val (.long t1), .second, .val (.long t2), .second, .val (.long now), .second, .val (.long pl), .second, .val (.ref a182), .val (.int (1 : Int32)), .unset, .unset, .unset, .unset, .unset, .unset, .unset, .unset] [])
  refine ow_iload C X187 at_184 rfl (pc' := 186) rfl ?_
  refine ow_if_eq C X187 at_186 (pcT := 207) (pc' := 189) (by decide) (by decide) rfl (fun bq => absurd bq (by decide)) (fun _ => ?_)
  refine ow_aload C X187 at_189 rfl rfl (pc' := 191) rfl ?_
  refine ow_callVP C X187 rfl (hw _ (List.mem_of_getElem? (i := 32) rfl)) (hw _ (List.mem_of_getElem? (i := 33) rfl)) (hw _ (List.mem_of_getElem? (i := 35) rfl)) rfl (hw _ (List.mem_of_getElem? (i := 34) rfl)) (hw _ (List.mem_of_getElem? (i := 8) rfl)) (hw _ (List.mem_of_getElem? (i := 36) rfl)) (by decide) Ez2 (rm_adm l Z a0 hw a182 ppz2 per pfz2 (Int32.ofNat uz2) nfz2 T187.heap Fpz2 Fez2 Fqz2 Fuz2 Ffz2) ⟨rfl, rfl⟩ pd_2 rfl (argsL := []) (rest := []) rfl rfl at_191 (Nat.le_of_ble_eq_true rfl) (Nat.le_of_ble_eq_true rfl) (by first | exact (Nat.le_of_ble_eq_true rfl) | exact cz30 | exact cz20 | exact cz10 | exact cz21 | exact cz11) (by first | exact (Nat.le_of_ble_eq_true rfl) | exact sz30 | exact sz20 | exact sz10 | exact sz21 | exact sz11) (pc' := 194) rfl (fun T188 X188 e188 => ?_)
  rw [show own_adm ppz2 per pfz2 (Int32.ofNat uz2) nfz2 = (la + lb) from own_adm0 AAz2.1 hpz2 hms hPle (by rw [Hz2, s2]) (by rw [s2]; omega)]
  refine ow_lload C X188 at_194 rfl (pc' := 196) rfl ?_
  refine ow_lload C X188 at_196 rfl (pc' := 198) rfl ?_
  refine ow_ladd C X188 at_198 (pc' := 199) rfl ?_
  refine ow_lcmp C X188 at_199 (pc' := 200) rfl ?_
  refine ow_lif_ne C X188 at_200 (pcT := 207) (pc' := 203) (by decide) (by decide) rfl (fun bq => absurd rfl bq) (fun _ => ?_)
  refine ow_iconst (1 : Int32) C X188 at_203 (by decide) (pc' := 204) rfl ?_
  refine ow_goto C X188 at_204 (pcT := 208) (by decide) (by decide) ?_
  refine ow_istore C X188 at_208 (Ls' := #[.val (.long q0), .second, .val (.long q1), .second, .val (.long q2), .second, .val (.long q3), .second, .val (.long q4), .second, .val (.long q5), .second, .val (.long x), .second, .val (.long la), .second, .val (.long lb), .second, .val (.long lc), .second, .val (.long t0), .second, .val (.long th), .second, .val (.long t1), .second, .val (.long t2), .second, .val (.long now), .second, .val (.long pl), .second, .val (.ref a182), .val (.int (1 : Int32)), .unset, .unset, .unset, .unset, .unset, .unset, .unset, .unset]) rfl (pc' := 210) rfl ?_
  refine ow_aload C X188 at_210 rfl rfl (pc' := 212) rfl ?_
  refine ow_lload C X188 at_212 rfl (pc' := 214) rfl ?_
  refine ow_lload C X188 at_214 rfl (pc' := 216) rfl ?_
  have J2 := own_begin (t := t2) (N := lc) (f := fz2) (nt := ntz2) (Lim := x.toInt) Uz2 hpz2 AAz2.1 hP (by omega) (by rw [Hz2]; omega)
  refine ow_callVE C X188 e188 (hw _ (List.mem_of_getElem? (i := 39) rfl)) (hw _ (List.mem_of_getElem? (i := 40) rfl)) (hw _ (List.mem_of_getElem? (i := 42) rfl)) rfl (hw _ (List.mem_of_getElem? (i := 41) rfl)) (hw _ (List.mem_of_getElem? (i := 8) rfl)) (hw _ (List.mem_of_getElem? (i := 43) rfl)) (by decide) Ez2 (rm_add l Z a0 hw a182 t2 lc per ms n0 x.toInt uz2 (own_T uz2 fz2 ntz2) (own_G per.toInt uz2 nfz2.toInt pfz2.toInt pz2) ((0 + kc185) + kc187) ((0 + ks185) + ks187) hP hLim hm2 hms qz2 nz2 fz2 uz2 ntz2 nfz2 ppz2 pfz2 T187.heap Rkz2 J2) pd_6 rfl (argsL := [(.long t2), (.long lc)]) (rest := []) rfl rfl at_216 (Nat.le_of_ble_eq_true rfl) (Nat.le_of_ble_eq_true rfl) (by first | exact (Nat.le_of_ble_eq_true rfl) | exact cz30 | exact cz20 | exact cz10 | exact cz21 | exact cz11) (by first | exact (Nat.le_of_ble_eq_true rfl) | exact sz30 | exact sz20 | exact sz10 | exact sz21 | exact sz11) (pc' := 219) rfl (fun T189 v189 L189 kc189 ks189 X189 Q189 => ?_)
  obtain ⟨rfl, N189, qz3, nz3, fz3, uz3, ntz3, nfz3, ppz3, pfz3, Rz3, Jz3⟩ := Q189
  obtain ⟨Uz3, pz3, hpz3, AAz3, gz3⟩ := own_next Jz3
  have Hz3 : own_G per.toInt uz3 nfz3.toInt pfz3.toInt pz3 0 = la.toInt + lb.toInt + lc.toInt := by rw [gz3, Hz2]
  have Bz3 := Uz3.bd hms
  have cz30 : 2 + kc185 + kc187 + kc189 ≤ 32 := by omega
  have cz31 : 2 + kc185 + kc187 + kc189 + 8 ≤ 32 := by omega
  have sz30 : 11 + ks185 + ks187 + ks189 ≤ 1728 := by omega
  have sz31 : 11 + ks185 + ks187 + ks189 + (903 - (((0 + ks185) + ks187) + ks189)) ≤ 1728 := by omega
  have Rkz3 := Rz3
  obtain ⟨Ez3, Fsz3, Fpz3, Fez3, Fmz3, Fuz3, Foz3, Fqz3, Ffz3, Ftz3, Az3, goz3, gqz3, nqz3⟩ := Rz3
  have Nn189 := Fr.app Nn187 N189
  show OwF p e below _ T189 (mkF m 219 #[.val (.long q0), .second, .val (.long q1), .second, .val (.long q2), .second, .val (.long q3), .second, .val (.long q4), .second, .val (.long q5), .second, .val (.long x), .second, .val (.long la), .second, .val (.long lb), .second, .val (.long lc), .second, .val (.long t0), .second, .val (.long th), .second, .val (.long t1), .second, .val (.long t2), .second, .val (.long now), .second, .val (.long pl), .second, .val (.ref a182), .val (.int (1 : Int32)), .unset, .unset, .unset, .unset, .unset, .unset, .unset, .unset] [])
  refine ow_lload C X189 at_219 rfl (pc' := 221) rfl ?_
  refine ow_lload C X189 at_221 rfl (pc' := 223) rfl ?_
  refine ow_ladd C X189 at_223 (pc' := 224) rfl ?_
  refine ow_lload C X189 at_224 rfl (pc' := 226) rfl ?_
  refine ow_ladd C X189 at_226 (pc' := 227) rfl ?_
  rw [htot]
  refine ow_lstore C X189 at_227 (Ls' := #[.val (.long q0), .second, .val (.long q1), .second, .val (.long q2), .second, .val (.long q3), .second, .val (.long q4), .second, .val (.long q5), .second, .val (.long x), .second, .val (.long la), .second, .val (.long lb), .second, .val (.long lc), .second, .val (.long t0), .second, .val (.long th), .second, .val (.long t1), .second, .val (.long t2), .second, .val (.long now), .second, .val (.long pl), .second, .val (.ref a182), .val (.int (1 : Int32)), .val (.long tot), .second, .unset, .unset, .unset, .unset, .unset, .unset]) rfl (pc' := 229) rfl ?_
  refine ow_iload C X189 at_229 rfl (pc' := 231) rfl ?_
  refine ow_if_eq C X189 at_231 (pcT := 249) (pc' := 234) (by decide) (by decide) rfl (fun bq => absurd bq (by decide)) (fun _ => ?_)
  refine ow_aload C X189 at_234 rfl rfl (pc' := 236) rfl ?_
  refine ow_callVP C X189 rfl (hw _ (List.mem_of_getElem? (i := 32) rfl)) (hw _ (List.mem_of_getElem? (i := 33) rfl)) (hw _ (List.mem_of_getElem? (i := 35) rfl)) rfl (hw _ (List.mem_of_getElem? (i := 34) rfl)) (hw _ (List.mem_of_getElem? (i := 8) rfl)) (hw _ (List.mem_of_getElem? (i := 36) rfl)) (by decide) Ez3 (rm_adm l Z a0 hw a182 ppz3 per pfz3 (Int32.ofNat uz3) nfz3 T189.heap Fpz3 Fez3 Fqz3 Fuz3 Ffz3) ⟨rfl, rfl⟩ pd_2 rfl (argsL := []) (rest := []) rfl rfl at_236 (Nat.le_of_ble_eq_true rfl) (Nat.le_of_ble_eq_true rfl) (by first | exact (Nat.le_of_ble_eq_true rfl) | exact cz30 | exact cz20 | exact cz10 | exact cz21 | exact cz11) (by first | exact (Nat.le_of_ble_eq_true rfl) | exact sz30 | exact sz20 | exact sz10 | exact sz21 | exact sz11) (pc' := 239) rfl (fun T190 X190 e190 => ?_)
  rw [show own_adm ppz3 per pfz3 (Int32.ofNat uz3) nfz3 = tot from own_adm0 AAz3.1 hpz3 hms hPle (by rw [Hz3, s3]) (by rw [s3]; omega)]
  refine ow_lload C X190 at_239 rfl (pc' := 241) rfl ?_
  refine ow_lcmp C X190 at_241 (pc' := 242) rfl ?_
  refine ow_lif_ne C X190 at_242 (pcT := 249) (pc' := 245) (by decide) (by decide) rfl (fun bq => absurd rfl bq) (fun _ => ?_)
  refine ow_iconst (1 : Int32) C X190 at_245 (by decide) (pc' := 246) rfl ?_
  refine ow_goto C X190 at_246 (pcT := 250) (by decide) (by decide) ?_
  refine ow_istore C X190 at_250 (Ls' := #[.val (.long q0), .second, .val (.long q1), .second, .val (.long q2), .second, .val (.long q3), .second, .val (.long q4), .second, .val (.long q5), .second, .val (.long x), .second, .val (.long la), .second, .val (.long lb), .second, .val (.long lc), .second, .val (.long t0), .second, .val (.long th), .second, .val (.long t1), .second, .val (.long t2), .second, .val (.long now), .second, .val (.long pl), .second, .val (.ref a182), .val (.int (1 : Int32)), .val (.long tot), .second, .unset, .unset, .unset, .unset, .unset, .unset]) rfl (pc' := 252) rfl ?_
  refine ow_aload C X190 at_252 rfl rfl (pc' := 254) rfl ?_
  refine ow_lload C X190 at_254 rfl (pc' := 256) rfl ?_
  refine ow_callV C X190 e190 (hw _ (List.mem_of_getElem? (i := 67) rfl)) (hw _ (List.mem_of_getElem? (i := 68) rfl)) (hw _ (List.mem_of_getElem? (i := 70) rfl)) rfl (hw _ (List.mem_of_getElem? (i := 69) rfl)) (hw _ (List.mem_of_getElem? (i := 8) rfl)) (hw _ (List.mem_of_getElem? (i := 71) rfl)) (by decide) Ez3 (rm_at l Z a0 hw a182 qz3 nz3 fz3 uz3 ntz3 nfz3 pfz3 per ms now pz3 n0 AAz3.1.1 (by have := AAz3.1.2.1; omega) ppz3 T189.heap hpz3 Rkz3) pd_7 rfl (argsL := [(.long now)]) (rest := []) rfl rfl at_256 (Nat.le_of_ble_eq_true rfl) (Nat.le_of_ble_eq_true rfl) (by first | exact (Nat.le_of_ble_eq_true rfl) | exact cz30 | exact cz20 | exact cz10 | exact cz21 | exact cz11) (by first | exact (Nat.le_of_ble_eq_true rfl) | exact sz30 | exact sz20 | exact sz10 | exact sz21 | exact sz11) (pc' := 259) rfl (fun T191 v191 L191 X191 Q191 => ?_)
  obtain ⟨d, ad, ppd, hd, Hd, He, hpd, rfl, N191, Rd⟩ := Q191
  have hmono := own_Gn AAz3.1 hP (Nat.zero_le d)
  have hh := own_admI AAz3.1 hpd hd hms hPle (by omega)
  obtain ⟨held, hheld⟩ : ∃ y, (own_adm ppd per pfz3 (Int32.ofNat (uz3 - d)) nfz3) = y := ⟨_, rfl⟩
  rw [hheld] at hh
  obtain ⟨Ed, Fsd, Fpd, Fed, Fmd, Fud, Fod, Fqd, Ffd, Ftd, Ad, god, gqd, nqd⟩ := Rd
  have Nn191 := Fr.app Nn189 N191
  show OwF p e below _ T191 (mkF m 259 #[.val (.long q0), .second, .val (.long q1), .second, .val (.long q2), .second, .val (.long q3), .second, .val (.long q4), .second, .val (.long q5), .second, .val (.long x), .second, .val (.long la), .second, .val (.long lb), .second, .val (.long lc), .second, .val (.long t0), .second, .val (.long th), .second, .val (.long t1), .second, .val (.long t2), .second, .val (.long now), .second, .val (.long pl), .second, .val (.ref a182), .val (.int (1 : Int32)), .val (.long tot), .second, .unset, .unset, .unset, .unset, .unset, .unset] [(.long (own_adm ppd per pfz3 (Int32.ofNat (uz3 - d)) nfz3))])
  rw [hheld]
  refine ow_lstore C X191 at_259 (Ls' := #[.val (.long q0), .second, .val (.long q1), .second, .val (.long q2), .second, .val (.long q3), .second, .val (.long q4), .second, .val (.long q5), .second, .val (.long x), .second, .val (.long la), .second, .val (.long lb), .second, .val (.long lc), .second, .val (.long t0), .second, .val (.long th), .second, .val (.long t1), .second, .val (.long t2), .second, .val (.long now), .second, .val (.long pl), .second, .val (.ref a182), .val (.int (1 : Int32)), .val (.long tot), .second, .val (.long held), .second, .unset, .unset, .unset, .unset]) rfl (pc' := 261) rfl ?_
  refine ow_aload C X191 at_261 rfl rfl (pc' := 263) rfl ?_
  refine ow_callVP C X191 rfl (hw _ (List.mem_of_getElem? (i := 32) rfl)) (hw _ (List.mem_of_getElem? (i := 33) rfl)) (hw _ (List.mem_of_getElem? (i := 35) rfl)) rfl (hw _ (List.mem_of_getElem? (i := 34) rfl)) (hw _ (List.mem_of_getElem? (i := 8) rfl)) (hw _ (List.mem_of_getElem? (i := 36) rfl)) (by decide) Ed (rm_adm l Z a0 hw a182 ppd per pfz3 (Int32.ofNat (uz3 - d)) nfz3 T191.heap Fpd Fed Fqd Fud Ffd) ⟨rfl, rfl⟩ pd_2 rfl (argsL := []) (rest := []) rfl rfl at_263 (Nat.le_of_ble_eq_true rfl) (Nat.le_of_ble_eq_true rfl) (by first | exact (Nat.le_of_ble_eq_true rfl) | exact cz30 | exact cz20 | exact cz10 | exact cz21 | exact cz11) (by first | exact (Nat.le_of_ble_eq_true rfl) | exact sz30 | exact sz20 | exact sz10 | exact sz21 | exact sz11) (pc' := 266) rfl (fun T192 X192 e192 => ?_)
  rw [hheld]
  refine ow_lstore C X192 at_266 (Ls' := #[.val (.long q0), .second, .val (.long q1), .second, .val (.long q2), .second, .val (.long q3), .second, .val (.long q4), .second, .val (.long q5), .second, .val (.long x), .second, .val (.long la), .second, .val (.long lb), .second, .val (.long lc), .second, .val (.long t0), .second, .val (.long th), .second, .val (.long t1), .second, .val (.long t2), .second, .val (.long now), .second, .val (.long pl), .second, .val (.ref a182), .val (.int (1 : Int32)), .val (.long tot), .second, .val (.long held), .second, .val (.long held), .second, .unset, .unset]) rfl (pc' := 268) rfl ?_
  refine ow_lload C X192 at_268 rfl (pc' := 270) rfl ?_
  refine ow_lload C X192 at_270 rfl (pc' := 272) rfl ?_
  refine ow_lsub C X192 at_272 (pc' := 273) rfl ?_
  refine ow_ldc2 C X192 (hw _ (List.mem_of_getElem? (i := 78) rfl)) at_273 (pc' := 276) rfl ?_
  refine ow_lcmp C X192 at_276 (pc' := 277) rfl ?_
  refine ow_lif_ge C X192 at_277 (pcT := 285) (pc' := 280) (by decide) (by decide) rfl (fun b277 => ?_) (fun b277 => ?_)
  · refine ow_lconst (0 : Int64) C X192 at_285 (by decide) (pc' := 286) rfl ?_
    refine ow_lload C X192 at_286 rfl (pc' := 288) rfl ?_
    refine ow_lload C X192 at_288 rfl (pc' := 290) rfl ?_
    refine ow_lsub C X192 at_290 (pc' := 291) rfl ?_
    refine ow_ldc2 C X192 (hw _ (List.mem_of_getElem? (i := 78) rfl)) at_291 (pc' := 294) rfl ?_
    refine ow_lcmp C X192 at_294 (pc' := 295) rfl ?_
    refine ow_lif_ge C X192 at_295 (pcT := 303) (pc' := 298) (by decide) (by decide) rfl (fun b295 => ?_) (fun b295 => ?_)
    · refine ow_lconst (0 : Int64) C X192 at_303 (by decide) (pc' := 304) rfl ?_
      refine ow_ladd C X192 at_304 (pc' := 305) rfl ?_
      refine ow_lload C X192 at_305 rfl (pc' := 307) rfl ?_
      refine ow_lload C X192 at_307 rfl (pc' := 309) rfl ?_
      refine ow_lsub C X192 at_309 (pc' := 310) rfl ?_
      refine ow_ldc2 C X192 (hw _ (List.mem_of_getElem? (i := 78) rfl)) at_310 (pc' := 313) rfl ?_
      refine ow_lcmp C X192 at_313 (pc' := 314) rfl ?_
      refine ow_lif_ge C X192 at_314 (pcT := 322) (pc' := 317) (by decide) (by decide) rfl (fun b314 => ?_) (fun b314 => ?_)
      · refine ow_lconst (0 : Int64) C X192 at_322 (by decide) (pc' := 323) rfl ?_
        refine ow_ladd C X192 at_323 (pc' := 324) rfl ?_
        obtain ⟨-, f1, f2, f3, f4⟩ := own_fin hP AAz1 AAz2 AAz3 (F := fun y => (now - y) < (1000000000 : Int64)) mt.1 mt.2 hd Hd He (0 : Int64).toInt (0 : Int64).toInt (0 : Int64).toInt (Or.inr ⟨b277, z0⟩) (Or.inr ⟨b295, z0⟩) (Or.inr ⟨b314, z0⟩)
        have hf := own_sum3 (w0 := (0 : Int64)) (w1 := (0 : Int64)) (w2 := (0 : Int64)) (by omega) (by omega) (by omega) (by omega)
        obtain ⟨fresh, hfr⟩ : ∃ y, (((0 : Int64) + (0 : Int64)) + (0 : Int64)) = y := ⟨_, rfl⟩
        rw [hfr] at hf
        rw [hfr]
        have hfp : ((fresh + pl) - (1 : Int64)).toInt = fresh.toInt + pl.toInt - 1 := by rw [own_subI (by rw [own_addI (by omega) (by omega) (by omega)]; omega) (by rw [c1]; omega), own_addI (by omega) (by omega) (by omega), c1]
        refine ow_lstore C X192 at_324 (Ls' := #[.val (.long q0), .second, .val (.long q1), .second, .val (.long q2), .second, .val (.long q3), .second, .val (.long q4), .second, .val (.long q5), .second, .val (.long x), .second, .val (.long la), .second, .val (.long lb), .second, .val (.long lc), .second, .val (.long t0), .second, .val (.long th), .second, .val (.long t1), .second, .val (.long t2), .second, .val (.long now), .second, .val (.long pl), .second, .val (.ref a182), .val (.int (1 : Int32)), .val (.long tot), .second, .val (.long held), .second, .val (.long held), .second, .val (.long fresh), .second]) rfl (pc' := 326) rfl ?_
        refine ow_iload C X192 at_326 rfl (pc' := 328) rfl ?_
        refine ow_if_eq C X192 at_328 (pcT := 343) (pc' := 331) (by decide) (by decide) rfl (fun bq => absurd bq (by decide)) (fun _ => ?_)
        refine ow_lload C X192 at_331 rfl (pc' := 333) rfl ?_
        refine ow_lload C X192 at_333 rfl (pc' := 335) rfl ?_
        refine ow_lcmp C X192 at_335 (pc' := 336) rfl ?_
        refine ow_lif_ne C X192 at_336 (pcT := 343) (pc' := 339) (by decide) (by decide) rfl (fun bq => absurd rfl bq) (fun _ => ?_)
        refine ow_iconst (1 : Int32) C X192 at_339 (by decide) (pc' := 340) rfl ?_
        refine ow_goto C X192 at_340 (pcT := 344) (by decide) (by decide) ?_
        refine ow_istore C X192 at_344 (Ls' := #[.val (.long q0), .second, .val (.long q1), .second, .val (.long q2), .second, .val (.long q3), .second, .val (.long q4), .second, .val (.long q5), .second, .val (.long x), .second, .val (.long la), .second, .val (.long lb), .second, .val (.long lc), .second, .val (.long t0), .second, .val (.long th), .second, .val (.long t1), .second, .val (.long t2), .second, .val (.long now), .second, .val (.long pl), .second, .val (.ref a182), .val (.int (1 : Int32)), .val (.long tot), .second, .val (.long held), .second, .val (.long held), .second, .val (.long fresh), .second]) rfl (pc' := 346) rfl ?_
        refine ow_iload C X192 at_346 rfl (pc' := 348) rfl ?_
        refine ow_if_eq C X192 at_348 (pcT := 363) (pc' := 351) (by decide) (by decide) rfl (fun bq => absurd bq (by decide)) (fun _ => ?_)
        refine ow_lload C X192 at_351 rfl (pc' := 353) rfl ?_
        refine ow_lload C X192 at_353 rfl (pc' := 355) rfl ?_
        refine ow_lcmp C X192 at_355 (pc' := 356) rfl ?_
        refine ow_lif_gt C X192 at_356 (pcT := 363) (pc' := 359) (by decide) (by decide) rfl (fun bq => absurd bq (fun w => by have := own_ltI.mp w; omega)) (fun _ => ?_)
        refine ow_iconst (1 : Int32) C X192 at_359 (by decide) (pc' := 360) rfl ?_
        refine ow_goto C X192 at_360 (pcT := 364) (by decide) (by decide) ?_
        refine ow_istore C X192 at_364 (Ls' := #[.val (.long q0), .second, .val (.long q1), .second, .val (.long q2), .second, .val (.long q3), .second, .val (.long q4), .second, .val (.long q5), .second, .val (.long x), .second, .val (.long la), .second, .val (.long lb), .second, .val (.long lc), .second, .val (.long t0), .second, .val (.long th), .second, .val (.long t1), .second, .val (.long t2), .second, .val (.long now), .second, .val (.long pl), .second, .val (.ref a182), .val (.int (1 : Int32)), .val (.long tot), .second, .val (.long held), .second, .val (.long held), .second, .val (.long fresh), .second]) rfl (pc' := 366) rfl ?_
        refine ow_iload C X192 at_366 rfl (pc' := 368) rfl ?_
        refine ow_if_eq C X192 at_368 (pcT := 383) (pc' := 371) (by decide) (by decide) rfl (fun bq => absurd bq (by decide)) (fun _ => ?_)
        refine ow_lload C X192 at_371 rfl (pc' := 373) rfl ?_
        refine ow_lload C X192 at_373 rfl (pc' := 375) rfl ?_
        refine ow_lcmp C X192 at_375 (pc' := 376) rfl ?_
        refine ow_lif_gt C X192 at_376 (pcT := 383) (pc' := 379) (by decide) (by decide) rfl (fun bq => absurd bq (fun w => by have := own_ltI.mp w; omega)) (fun _ => ?_)
        refine ow_iconst (1 : Int32) C X192 at_379 (by decide) (pc' := 380) rfl ?_
        refine ow_goto C X192 at_380 (pcT := 384) (by decide) (by decide) ?_
        refine ow_istore C X192 at_384 (Ls' := #[.val (.long q0), .second, .val (.long q1), .second, .val (.long q2), .second, .val (.long q3), .second, .val (.long q4), .second, .val (.long q5), .second, .val (.long x), .second, .val (.long la), .second, .val (.long lb), .second, .val (.long lc), .second, .val (.long t0), .second, .val (.long th), .second, .val (.long t1), .second, .val (.long t2), .second, .val (.long now), .second, .val (.long pl), .second, .val (.ref a182), .val (.int (1 : Int32)), .val (.long tot), .second, .val (.long held), .second, .val (.long held), .second, .val (.long fresh), .second]) rfl (pc' := 386) rfl ?_
        refine ow_iload C X192 at_386 rfl (pc' := 388) rfl ?_
        refine ow_if_eq C X192 at_388 (pcT := 408) (pc' := 391) (by decide) (by decide) rfl (fun bq => absurd bq (by decide)) (fun _ => ?_)
        refine ow_lload C X192 at_391 rfl (pc' := 393) rfl ?_
        refine ow_lload C X192 at_393 rfl (pc' := 395) rfl ?_
        refine ow_lload C X192 at_395 rfl (pc' := 397) rfl ?_
        refine ow_ladd C X192 at_397 (pc' := 398) rfl ?_
        refine ow_lconst (1 : Int64) C X192 at_398 (by decide) (pc' := 399) rfl ?_
        refine ow_lsub C X192 at_399 (pc' := 400) rfl ?_
        refine ow_lcmp C X192 at_400 (pc' := 401) rfl ?_
        refine ow_lif_gt C X192 at_401 (pcT := 408) (pc' := 404) (by decide) (by decide) rfl (fun bq => absurd bq (fun w => by have := own_ltI.mp w; omega)) (fun _ => ?_)
        refine ow_iconst (1 : Int32) C X192 at_404 (by decide) (pc' := 405) rfl ?_
        refine ow_goto C X192 at_405 (pcT := 409) (by decide) (by decide) ?_
        refine ow_istore C X192 at_409 (Ls' := #[.val (.long q0), .second, .val (.long q1), .second, .val (.long q2), .second, .val (.long q3), .second, .val (.long q4), .second, .val (.long q5), .second, .val (.long x), .second, .val (.long la), .second, .val (.long lb), .second, .val (.long lc), .second, .val (.long t0), .second, .val (.long th), .second, .val (.long t1), .second, .val (.long t2), .second, .val (.long now), .second, .val (.long pl), .second, .val (.ref a182), .val (.int (1 : Int32)), .val (.long tot), .second, .val (.long held), .second, .val (.long held), .second, .val (.long fresh), .second]) rfl (pc' := 411) rfl ?_
        refine ow_iload C X192 at_411 rfl (pc' := 413) rfl ?_
        refine ow_if_eq C X192 at_413 (pcT := 434) (pc' := 416) (by decide) (by decide) rfl (fun bq => absurd bq (by decide)) (fun _ => ?_)
        refine ow_lload C X192 at_416 rfl (pc' := 418) rfl ?_
        refine ow_lconst (0 : Int64) C X192 at_418 (by decide) (pc' := 419) rfl ?_
        refine ow_lcmp C X192 at_419 (pc' := 420) rfl ?_
        refine ow_lif_ne C X192 at_420 (pcT := 430) (pc' := 423) (by decide) (by decide) rfl (fun b420 => ?_) (fun b420 => ?_)
        · refine ow_iconst (1 : Int32) C X192 at_430 (by decide) (pc' := 431) rfl ?_
          refine ow_goto C X192 at_431 (pcT := 435) (by decide) (by decide) ?_
          refine ow_istore C X192 at_435 (Ls' := #[.val (.long q0), .second, .val (.long q1), .second, .val (.long q2), .second, .val (.long q3), .second, .val (.long q4), .second, .val (.long q5), .second, .val (.long x), .second, .val (.long la), .second, .val (.long lb), .second, .val (.long lc), .second, .val (.long t0), .second, .val (.long th), .second, .val (.long t1), .second, .val (.long t2), .second, .val (.long now), .second, .val (.long pl), .second, .val (.ref a182), .val (.int (1 : Int32)), .val (.long tot), .second, .val (.long held), .second, .val (.long held), .second, .val (.long fresh), .second]) rfl (pc' := 437) rfl ?_
          refine ow_iload C X192 at_437 rfl (pc' := 439) rfl ?_
          exact ow_retZ C X192 at_439 (by first | exact (Nat.le_of_ble_eq_true rfl) | exact cz30 | exact cz20 | exact cz10 | exact cz21 | exact cz11) (by first | exact (Nat.le_of_ble_eq_true rfl) | exact sz30 | exact sz20 | exact sz10 | exact sz21 | exact sz11) (Or.inr rfl) ⟨rfl, Nn191⟩
        · refine ow_lload C X192 at_423 rfl (pc' := 425) rfl ?_
          refine ow_lconst (0 : Int64) C X192 at_425 (by decide) (pc' := 426) rfl ?_
          refine ow_lcmp C X192 at_426 (pc' := 427) rfl ?_
          refine ow_lif_ne C X192 at_427 (pcT := 434) (pc' := 430) (by decide) (by decide) rfl (fun bq => absurd (Int64.toInt_inj.mp (by rw [hh, z0]; exact f4 (by rw [← hf, b420, z0]))) bq) (fun _ => ?_)
          refine ow_iconst (1 : Int32) C X192 at_430 (by decide) (pc' := 431) rfl ?_
          refine ow_goto C X192 at_431 (pcT := 435) (by decide) (by decide) ?_
          refine ow_istore C X192 at_435 (Ls' := #[.val (.long q0), .second, .val (.long q1), .second, .val (.long q2), .second, .val (.long q3), .second, .val (.long q4), .second, .val (.long q5), .second, .val (.long x), .second, .val (.long la), .second, .val (.long lb), .second, .val (.long lc), .second, .val (.long t0), .second, .val (.long th), .second, .val (.long t1), .second, .val (.long t2), .second, .val (.long now), .second, .val (.long pl), .second, .val (.ref a182), .val (.int (1 : Int32)), .val (.long tot), .second, .val (.long held), .second, .val (.long held), .second, .val (.long fresh), .second]) rfl (pc' := 437) rfl ?_
          refine ow_iload C X192 at_437 rfl (pc' := 439) rfl ?_
          exact ow_retZ C X192 at_439 (by first | exact (Nat.le_of_ble_eq_true rfl) | exact cz30 | exact cz20 | exact cz10 | exact cz21 | exact cz11) (by first | exact (Nat.le_of_ble_eq_true rfl) | exact sz30 | exact sz20 | exact sz10 | exact sz21 | exact sz11) (Or.inr rfl) ⟨rfl, Nn191⟩
      · refine ow_lload C X192 at_317 rfl (pc' := 319) rfl ?_
        refine ow_goto C X192 at_319 (pcT := 323) (by decide) (by decide) ?_
        refine ow_ladd C X192 at_323 (pc' := 324) rfl ?_
        obtain ⟨-, f1, f2, f3, f4⟩ := own_fin hP AAz1 AAz2 AAz3 (F := fun y => (now - y) < (1000000000 : Int64)) mt.1 mt.2 hd Hd He (0 : Int64).toInt (0 : Int64).toInt lc.toInt (Or.inr ⟨b277, z0⟩) (Or.inr ⟨b295, z0⟩) (Or.inl ⟨b314, rfl⟩)
        have hf := own_sum3 (w0 := (0 : Int64)) (w1 := (0 : Int64)) (w2 := lc) (by omega) (by omega) (by omega) (by omega)
        obtain ⟨fresh, hfr⟩ : ∃ y, (((0 : Int64) + (0 : Int64)) + lc) = y := ⟨_, rfl⟩
        rw [hfr] at hf
        rw [hfr]
        have hfp : ((fresh + pl) - (1 : Int64)).toInt = fresh.toInt + pl.toInt - 1 := by rw [own_subI (by rw [own_addI (by omega) (by omega) (by omega)]; omega) (by rw [c1]; omega), own_addI (by omega) (by omega) (by omega), c1]
        refine ow_lstore C X192 at_324 (Ls' := #[.val (.long q0), .second, .val (.long q1), .second, .val (.long q2), .second, .val (.long q3), .second, .val (.long q4), .second, .val (.long q5), .second, .val (.long x), .second, .val (.long la), .second, .val (.long lb), .second, .val (.long lc), .second, .val (.long t0), .second, .val (.long th), .second, .val (.long t1), .second, .val (.long t2), .second, .val (.long now), .second, .val (.long pl), .second, .val (.ref a182), .val (.int (1 : Int32)), .val (.long tot), .second, .val (.long held), .second, .val (.long held), .second, .val (.long fresh), .second]) rfl (pc' := 326) rfl ?_
        refine ow_iload C X192 at_326 rfl (pc' := 328) rfl ?_
        refine ow_if_eq C X192 at_328 (pcT := 343) (pc' := 331) (by decide) (by decide) rfl (fun bq => absurd bq (by decide)) (fun _ => ?_)
        refine ow_lload C X192 at_331 rfl (pc' := 333) rfl ?_
        refine ow_lload C X192 at_333 rfl (pc' := 335) rfl ?_
        refine ow_lcmp C X192 at_335 (pc' := 336) rfl ?_
        refine ow_lif_ne C X192 at_336 (pcT := 343) (pc' := 339) (by decide) (by decide) rfl (fun bq => absurd rfl bq) (fun _ => ?_)
        refine ow_iconst (1 : Int32) C X192 at_339 (by decide) (pc' := 340) rfl ?_
        refine ow_goto C X192 at_340 (pcT := 344) (by decide) (by decide) ?_
        refine ow_istore C X192 at_344 (Ls' := #[.val (.long q0), .second, .val (.long q1), .second, .val (.long q2), .second, .val (.long q3), .second, .val (.long q4), .second, .val (.long q5), .second, .val (.long x), .second, .val (.long la), .second, .val (.long lb), .second, .val (.long lc), .second, .val (.long t0), .second, .val (.long th), .second, .val (.long t1), .second, .val (.long t2), .second, .val (.long now), .second, .val (.long pl), .second, .val (.ref a182), .val (.int (1 : Int32)), .val (.long tot), .second, .val (.long held), .second, .val (.long held), .second, .val (.long fresh), .second]) rfl (pc' := 346) rfl ?_
        refine ow_iload C X192 at_346 rfl (pc' := 348) rfl ?_
        refine ow_if_eq C X192 at_348 (pcT := 363) (pc' := 351) (by decide) (by decide) rfl (fun bq => absurd bq (by decide)) (fun _ => ?_)
        refine ow_lload C X192 at_351 rfl (pc' := 353) rfl ?_
        refine ow_lload C X192 at_353 rfl (pc' := 355) rfl ?_
        refine ow_lcmp C X192 at_355 (pc' := 356) rfl ?_
        refine ow_lif_gt C X192 at_356 (pcT := 363) (pc' := 359) (by decide) (by decide) rfl (fun bq => absurd bq (fun w => by have := own_ltI.mp w; omega)) (fun _ => ?_)
        refine ow_iconst (1 : Int32) C X192 at_359 (by decide) (pc' := 360) rfl ?_
        refine ow_goto C X192 at_360 (pcT := 364) (by decide) (by decide) ?_
        refine ow_istore C X192 at_364 (Ls' := #[.val (.long q0), .second, .val (.long q1), .second, .val (.long q2), .second, .val (.long q3), .second, .val (.long q4), .second, .val (.long q5), .second, .val (.long x), .second, .val (.long la), .second, .val (.long lb), .second, .val (.long lc), .second, .val (.long t0), .second, .val (.long th), .second, .val (.long t1), .second, .val (.long t2), .second, .val (.long now), .second, .val (.long pl), .second, .val (.ref a182), .val (.int (1 : Int32)), .val (.long tot), .second, .val (.long held), .second, .val (.long held), .second, .val (.long fresh), .second]) rfl (pc' := 366) rfl ?_
        refine ow_iload C X192 at_366 rfl (pc' := 368) rfl ?_
        refine ow_if_eq C X192 at_368 (pcT := 383) (pc' := 371) (by decide) (by decide) rfl (fun bq => absurd bq (by decide)) (fun _ => ?_)
        refine ow_lload C X192 at_371 rfl (pc' := 373) rfl ?_
        refine ow_lload C X192 at_373 rfl (pc' := 375) rfl ?_
        refine ow_lcmp C X192 at_375 (pc' := 376) rfl ?_
        refine ow_lif_gt C X192 at_376 (pcT := 383) (pc' := 379) (by decide) (by decide) rfl (fun bq => absurd bq (fun w => by have := own_ltI.mp w; omega)) (fun _ => ?_)
        refine ow_iconst (1 : Int32) C X192 at_379 (by decide) (pc' := 380) rfl ?_
        refine ow_goto C X192 at_380 (pcT := 384) (by decide) (by decide) ?_
        refine ow_istore C X192 at_384 (Ls' := #[.val (.long q0), .second, .val (.long q1), .second, .val (.long q2), .second, .val (.long q3), .second, .val (.long q4), .second, .val (.long q5), .second, .val (.long x), .second, .val (.long la), .second, .val (.long lb), .second, .val (.long lc), .second, .val (.long t0), .second, .val (.long th), .second, .val (.long t1), .second, .val (.long t2), .second, .val (.long now), .second, .val (.long pl), .second, .val (.ref a182), .val (.int (1 : Int32)), .val (.long tot), .second, .val (.long held), .second, .val (.long held), .second, .val (.long fresh), .second]) rfl (pc' := 386) rfl ?_
        refine ow_iload C X192 at_386 rfl (pc' := 388) rfl ?_
        refine ow_if_eq C X192 at_388 (pcT := 408) (pc' := 391) (by decide) (by decide) rfl (fun bq => absurd bq (by decide)) (fun _ => ?_)
        refine ow_lload C X192 at_391 rfl (pc' := 393) rfl ?_
        refine ow_lload C X192 at_393 rfl (pc' := 395) rfl ?_
        refine ow_lload C X192 at_395 rfl (pc' := 397) rfl ?_
        refine ow_ladd C X192 at_397 (pc' := 398) rfl ?_
        refine ow_lconst (1 : Int64) C X192 at_398 (by decide) (pc' := 399) rfl ?_
        refine ow_lsub C X192 at_399 (pc' := 400) rfl ?_
        refine ow_lcmp C X192 at_400 (pc' := 401) rfl ?_
        refine ow_lif_gt C X192 at_401 (pcT := 408) (pc' := 404) (by decide) (by decide) rfl (fun bq => absurd bq (fun w => by have := own_ltI.mp w; omega)) (fun _ => ?_)
        refine ow_iconst (1 : Int32) C X192 at_404 (by decide) (pc' := 405) rfl ?_
        refine ow_goto C X192 at_405 (pcT := 409) (by decide) (by decide) ?_
        refine ow_istore C X192 at_409 (Ls' := #[.val (.long q0), .second, .val (.long q1), .second, .val (.long q2), .second, .val (.long q3), .second, .val (.long q4), .second, .val (.long q5), .second, .val (.long x), .second, .val (.long la), .second, .val (.long lb), .second, .val (.long lc), .second, .val (.long t0), .second, .val (.long th), .second, .val (.long t1), .second, .val (.long t2), .second, .val (.long now), .second, .val (.long pl), .second, .val (.ref a182), .val (.int (1 : Int32)), .val (.long tot), .second, .val (.long held), .second, .val (.long held), .second, .val (.long fresh), .second]) rfl (pc' := 411) rfl ?_
        refine ow_iload C X192 at_411 rfl (pc' := 413) rfl ?_
        refine ow_if_eq C X192 at_413 (pcT := 434) (pc' := 416) (by decide) (by decide) rfl (fun bq => absurd bq (by decide)) (fun _ => ?_)
        refine ow_lload C X192 at_416 rfl (pc' := 418) rfl ?_
        refine ow_lconst (0 : Int64) C X192 at_418 (by decide) (pc' := 419) rfl ?_
        refine ow_lcmp C X192 at_419 (pc' := 420) rfl ?_
        refine ow_lif_ne C X192 at_420 (pcT := 430) (pc' := 423) (by decide) (by decide) rfl (fun b420 => ?_) (fun b420 => ?_)
        · refine ow_iconst (1 : Int32) C X192 at_430 (by decide) (pc' := 431) rfl ?_
          refine ow_goto C X192 at_431 (pcT := 435) (by decide) (by decide) ?_
          refine ow_istore C X192 at_435 (Ls' := #[.val (.long q0), .second, .val (.long q1), .second, .val (.long q2), .second, .val (.long q3), .second, .val (.long q4), .second, .val (.long q5), .second, .val (.long x), .second, .val (.long la), .second, .val (.long lb), .second, .val (.long lc), .second, .val (.long t0), .second, .val (.long th), .second, .val (.long t1), .second, .val (.long t2), .second, .val (.long now), .second, .val (.long pl), .second, .val (.ref a182), .val (.int (1 : Int32)), .val (.long tot), .second, .val (.long held), .second, .val (.long held), .second, .val (.long fresh), .second]) rfl (pc' := 437) rfl ?_
          refine ow_iload C X192 at_437 rfl (pc' := 439) rfl ?_
          exact ow_retZ C X192 at_439 (by first | exact (Nat.le_of_ble_eq_true rfl) | exact cz30 | exact cz20 | exact cz10 | exact cz21 | exact cz11) (by first | exact (Nat.le_of_ble_eq_true rfl) | exact sz30 | exact sz20 | exact sz10 | exact sz21 | exact sz11) (Or.inr rfl) ⟨rfl, Nn191⟩
        · refine ow_lload C X192 at_423 rfl (pc' := 425) rfl ?_
          refine ow_lconst (0 : Int64) C X192 at_425 (by decide) (pc' := 426) rfl ?_
          refine ow_lcmp C X192 at_426 (pc' := 427) rfl ?_
          refine ow_lif_ne C X192 at_427 (pcT := 434) (pc' := 430) (by decide) (by decide) rfl (fun bq => absurd (Int64.toInt_inj.mp (by rw [hh, z0]; exact f4 (by rw [← hf, b420, z0]))) bq) (fun _ => ?_)
          refine ow_iconst (1 : Int32) C X192 at_430 (by decide) (pc' := 431) rfl ?_
          refine ow_goto C X192 at_431 (pcT := 435) (by decide) (by decide) ?_
          refine ow_istore C X192 at_435 (Ls' := #[.val (.long q0), .second, .val (.long q1), .second, .val (.long q2), .second, .val (.long q3), .second, .val (.long q4), .second, .val (.long q5), .second, .val (.long x), .second, .val (.long la), .second, .val (.long lb), .second, .val (.long lc), .second, .val (.long t0), .second, .val (.long th), .second, .val (.long t1), .second, .val (.long t2), .second, .val (.long now), .second, .val (.long pl), .second, .val (.ref a182), .val (.int (1 : Int32)), .val (.long tot), .second, .val (.long held), .second, .val (.long held), .second, .val (.long fresh), .second]) rfl (pc' := 437) rfl ?_
          refine ow_iload C X192 at_437 rfl (pc' := 439) rfl ?_
          exact ow_retZ C X192 at_439 (by first | exact (Nat.le_of_ble_eq_true rfl) | exact cz30 | exact cz20 | exact cz10 | exact cz21 | exact cz11) (by first | exact (Nat.le_of_ble_eq_true rfl) | exact sz30 | exact sz20 | exact sz10 | exact sz21 | exact sz11) (Or.inr rfl) ⟨rfl, Nn191⟩
    · refine ow_lload C X192 at_298 rfl (pc' := 300) rfl ?_
      refine ow_goto C X192 at_300 (pcT := 304) (by decide) (by decide) ?_
      refine ow_ladd C X192 at_304 (pc' := 305) rfl ?_
      refine ow_lload C X192 at_305 rfl (pc' := 307) rfl ?_
      refine ow_lload C X192 at_307 rfl (pc' := 309) rfl ?_
      refine ow_lsub C X192 at_309 (pc' := 310) rfl ?_
      refine ow_ldc2 C X192 (hw _ (List.mem_of_getElem? (i := 78) rfl)) at_310 (pc' := 313) rfl ?_
      refine ow_lcmp C X192 at_313 (pc' := 314) rfl ?_
      refine ow_lif_ge C X192 at_314 (pcT := 322) (pc' := 317) (by decide) (by decide) rfl (fun bq => absurd (mt.2 b295) bq) (fun _ => ?_)
      refine ow_lload C X192 at_317 rfl (pc' := 319) rfl ?_
      refine ow_goto C X192 at_319 (pcT := 323) (by decide) (by decide) ?_
      refine ow_ladd C X192 at_323 (pc' := 324) rfl ?_
      obtain ⟨-, f1, f2, f3, f4⟩ := own_fin hP AAz1 AAz2 AAz3 (F := fun y => (now - y) < (1000000000 : Int64)) mt.1 mt.2 hd Hd He (0 : Int64).toInt lb.toInt lc.toInt (Or.inr ⟨b277, z0⟩) (Or.inl ⟨b295, rfl⟩) (Or.inl ⟨(mt.2 b295), rfl⟩)
      have hf := own_sum3 (w0 := (0 : Int64)) (w1 := lb) (w2 := lc) (by omega) (by omega) (by omega) (by omega)
      obtain ⟨fresh, hfr⟩ : ∃ y, (((0 : Int64) + lb) + lc) = y := ⟨_, rfl⟩
      rw [hfr] at hf
      rw [hfr]
      have hfp : ((fresh + pl) - (1 : Int64)).toInt = fresh.toInt + pl.toInt - 1 := by rw [own_subI (by rw [own_addI (by omega) (by omega) (by omega)]; omega) (by rw [c1]; omega), own_addI (by omega) (by omega) (by omega), c1]
      refine ow_lstore C X192 at_324 (Ls' := #[.val (.long q0), .second, .val (.long q1), .second, .val (.long q2), .second, .val (.long q3), .second, .val (.long q4), .second, .val (.long q5), .second, .val (.long x), .second, .val (.long la), .second, .val (.long lb), .second, .val (.long lc), .second, .val (.long t0), .second, .val (.long th), .second, .val (.long t1), .second, .val (.long t2), .second, .val (.long now), .second, .val (.long pl), .second, .val (.ref a182), .val (.int (1 : Int32)), .val (.long tot), .second, .val (.long held), .second, .val (.long held), .second, .val (.long fresh), .second]) rfl (pc' := 326) rfl ?_
      refine ow_iload C X192 at_326 rfl (pc' := 328) rfl ?_
      refine ow_if_eq C X192 at_328 (pcT := 343) (pc' := 331) (by decide) (by decide) rfl (fun bq => absurd bq (by decide)) (fun _ => ?_)
      refine ow_lload C X192 at_331 rfl (pc' := 333) rfl ?_
      refine ow_lload C X192 at_333 rfl (pc' := 335) rfl ?_
      refine ow_lcmp C X192 at_335 (pc' := 336) rfl ?_
      refine ow_lif_ne C X192 at_336 (pcT := 343) (pc' := 339) (by decide) (by decide) rfl (fun bq => absurd rfl bq) (fun _ => ?_)
      refine ow_iconst (1 : Int32) C X192 at_339 (by decide) (pc' := 340) rfl ?_
      refine ow_goto C X192 at_340 (pcT := 344) (by decide) (by decide) ?_
      refine ow_istore C X192 at_344 (Ls' := #[.val (.long q0), .second, .val (.long q1), .second, .val (.long q2), .second, .val (.long q3), .second, .val (.long q4), .second, .val (.long q5), .second, .val (.long x), .second, .val (.long la), .second, .val (.long lb), .second, .val (.long lc), .second, .val (.long t0), .second, .val (.long th), .second, .val (.long t1), .second, .val (.long t2), .second, .val (.long now), .second, .val (.long pl), .second, .val (.ref a182), .val (.int (1 : Int32)), .val (.long tot), .second, .val (.long held), .second, .val (.long held), .second, .val (.long fresh), .second]) rfl (pc' := 346) rfl ?_
      refine ow_iload C X192 at_346 rfl (pc' := 348) rfl ?_
      refine ow_if_eq C X192 at_348 (pcT := 363) (pc' := 351) (by decide) (by decide) rfl (fun bq => absurd bq (by decide)) (fun _ => ?_)
      refine ow_lload C X192 at_351 rfl (pc' := 353) rfl ?_
      refine ow_lload C X192 at_353 rfl (pc' := 355) rfl ?_
      refine ow_lcmp C X192 at_355 (pc' := 356) rfl ?_
      refine ow_lif_gt C X192 at_356 (pcT := 363) (pc' := 359) (by decide) (by decide) rfl (fun bq => absurd bq (fun w => by have := own_ltI.mp w; omega)) (fun _ => ?_)
      refine ow_iconst (1 : Int32) C X192 at_359 (by decide) (pc' := 360) rfl ?_
      refine ow_goto C X192 at_360 (pcT := 364) (by decide) (by decide) ?_
      refine ow_istore C X192 at_364 (Ls' := #[.val (.long q0), .second, .val (.long q1), .second, .val (.long q2), .second, .val (.long q3), .second, .val (.long q4), .second, .val (.long q5), .second, .val (.long x), .second, .val (.long la), .second, .val (.long lb), .second, .val (.long lc), .second, .val (.long t0), .second, .val (.long th), .second, .val (.long t1), .second, .val (.long t2), .second, .val (.long now), .second, .val (.long pl), .second, .val (.ref a182), .val (.int (1 : Int32)), .val (.long tot), .second, .val (.long held), .second, .val (.long held), .second, .val (.long fresh), .second]) rfl (pc' := 366) rfl ?_
      refine ow_iload C X192 at_366 rfl (pc' := 368) rfl ?_
      refine ow_if_eq C X192 at_368 (pcT := 383) (pc' := 371) (by decide) (by decide) rfl (fun bq => absurd bq (by decide)) (fun _ => ?_)
      refine ow_lload C X192 at_371 rfl (pc' := 373) rfl ?_
      refine ow_lload C X192 at_373 rfl (pc' := 375) rfl ?_
      refine ow_lcmp C X192 at_375 (pc' := 376) rfl ?_
      refine ow_lif_gt C X192 at_376 (pcT := 383) (pc' := 379) (by decide) (by decide) rfl (fun bq => absurd bq (fun w => by have := own_ltI.mp w; omega)) (fun _ => ?_)
      refine ow_iconst (1 : Int32) C X192 at_379 (by decide) (pc' := 380) rfl ?_
      refine ow_goto C X192 at_380 (pcT := 384) (by decide) (by decide) ?_
      refine ow_istore C X192 at_384 (Ls' := #[.val (.long q0), .second, .val (.long q1), .second, .val (.long q2), .second, .val (.long q3), .second, .val (.long q4), .second, .val (.long q5), .second, .val (.long x), .second, .val (.long la), .second, .val (.long lb), .second, .val (.long lc), .second, .val (.long t0), .second, .val (.long th), .second, .val (.long t1), .second, .val (.long t2), .second, .val (.long now), .second, .val (.long pl), .second, .val (.ref a182), .val (.int (1 : Int32)), .val (.long tot), .second, .val (.long held), .second, .val (.long held), .second, .val (.long fresh), .second]) rfl (pc' := 386) rfl ?_
      refine ow_iload C X192 at_386 rfl (pc' := 388) rfl ?_
      refine ow_if_eq C X192 at_388 (pcT := 408) (pc' := 391) (by decide) (by decide) rfl (fun bq => absurd bq (by decide)) (fun _ => ?_)
      refine ow_lload C X192 at_391 rfl (pc' := 393) rfl ?_
      refine ow_lload C X192 at_393 rfl (pc' := 395) rfl ?_
      refine ow_lload C X192 at_395 rfl (pc' := 397) rfl ?_
      refine ow_ladd C X192 at_397 (pc' := 398) rfl ?_
      refine ow_lconst (1 : Int64) C X192 at_398 (by decide) (pc' := 399) rfl ?_
      refine ow_lsub C X192 at_399 (pc' := 400) rfl ?_
      refine ow_lcmp C X192 at_400 (pc' := 401) rfl ?_
      refine ow_lif_gt C X192 at_401 (pcT := 408) (pc' := 404) (by decide) (by decide) rfl (fun bq => absurd bq (fun w => by have := own_ltI.mp w; omega)) (fun _ => ?_)
      refine ow_iconst (1 : Int32) C X192 at_404 (by decide) (pc' := 405) rfl ?_
      refine ow_goto C X192 at_405 (pcT := 409) (by decide) (by decide) ?_
      refine ow_istore C X192 at_409 (Ls' := #[.val (.long q0), .second, .val (.long q1), .second, .val (.long q2), .second, .val (.long q3), .second, .val (.long q4), .second, .val (.long q5), .second, .val (.long x), .second, .val (.long la), .second, .val (.long lb), .second, .val (.long lc), .second, .val (.long t0), .second, .val (.long th), .second, .val (.long t1), .second, .val (.long t2), .second, .val (.long now), .second, .val (.long pl), .second, .val (.ref a182), .val (.int (1 : Int32)), .val (.long tot), .second, .val (.long held), .second, .val (.long held), .second, .val (.long fresh), .second]) rfl (pc' := 411) rfl ?_
      refine ow_iload C X192 at_411 rfl (pc' := 413) rfl ?_
      refine ow_if_eq C X192 at_413 (pcT := 434) (pc' := 416) (by decide) (by decide) rfl (fun bq => absurd bq (by decide)) (fun _ => ?_)
      refine ow_lload C X192 at_416 rfl (pc' := 418) rfl ?_
      refine ow_lconst (0 : Int64) C X192 at_418 (by decide) (pc' := 419) rfl ?_
      refine ow_lcmp C X192 at_419 (pc' := 420) rfl ?_
      refine ow_lif_ne C X192 at_420 (pcT := 430) (pc' := 423) (by decide) (by decide) rfl (fun b420 => ?_) (fun b420 => ?_)
      · refine ow_iconst (1 : Int32) C X192 at_430 (by decide) (pc' := 431) rfl ?_
        refine ow_goto C X192 at_431 (pcT := 435) (by decide) (by decide) ?_
        refine ow_istore C X192 at_435 (Ls' := #[.val (.long q0), .second, .val (.long q1), .second, .val (.long q2), .second, .val (.long q3), .second, .val (.long q4), .second, .val (.long q5), .second, .val (.long x), .second, .val (.long la), .second, .val (.long lb), .second, .val (.long lc), .second, .val (.long t0), .second, .val (.long th), .second, .val (.long t1), .second, .val (.long t2), .second, .val (.long now), .second, .val (.long pl), .second, .val (.ref a182), .val (.int (1 : Int32)), .val (.long tot), .second, .val (.long held), .second, .val (.long held), .second, .val (.long fresh), .second]) rfl (pc' := 437) rfl ?_
        refine ow_iload C X192 at_437 rfl (pc' := 439) rfl ?_
        exact ow_retZ C X192 at_439 (by first | exact (Nat.le_of_ble_eq_true rfl) | exact cz30 | exact cz20 | exact cz10 | exact cz21 | exact cz11) (by first | exact (Nat.le_of_ble_eq_true rfl) | exact sz30 | exact sz20 | exact sz10 | exact sz21 | exact sz11) (Or.inr rfl) ⟨rfl, Nn191⟩
      · refine ow_lload C X192 at_423 rfl (pc' := 425) rfl ?_
        refine ow_lconst (0 : Int64) C X192 at_425 (by decide) (pc' := 426) rfl ?_
        refine ow_lcmp C X192 at_426 (pc' := 427) rfl ?_
        refine ow_lif_ne C X192 at_427 (pcT := 434) (pc' := 430) (by decide) (by decide) rfl (fun bq => absurd (Int64.toInt_inj.mp (by rw [hh, z0]; exact f4 (by rw [← hf, b420, z0]))) bq) (fun _ => ?_)
        refine ow_iconst (1 : Int32) C X192 at_430 (by decide) (pc' := 431) rfl ?_
        refine ow_goto C X192 at_431 (pcT := 435) (by decide) (by decide) ?_
        refine ow_istore C X192 at_435 (Ls' := #[.val (.long q0), .second, .val (.long q1), .second, .val (.long q2), .second, .val (.long q3), .second, .val (.long q4), .second, .val (.long q5), .second, .val (.long x), .second, .val (.long la), .second, .val (.long lb), .second, .val (.long lc), .second, .val (.long t0), .second, .val (.long th), .second, .val (.long t1), .second, .val (.long t2), .second, .val (.long now), .second, .val (.long pl), .second, .val (.ref a182), .val (.int (1 : Int32)), .val (.long tot), .second, .val (.long held), .second, .val (.long held), .second, .val (.long fresh), .second]) rfl (pc' := 437) rfl ?_
        refine ow_iload C X192 at_437 rfl (pc' := 439) rfl ?_
        exact ow_retZ C X192 at_439 (by first | exact (Nat.le_of_ble_eq_true rfl) | exact cz30 | exact cz20 | exact cz10 | exact cz21 | exact cz11) (by first | exact (Nat.le_of_ble_eq_true rfl) | exact sz30 | exact sz20 | exact sz10 | exact sz21 | exact sz11) (Or.inr rfl) ⟨rfl, Nn191⟩
  · refine ow_lload C X192 at_280 rfl (pc' := 282) rfl ?_
    refine ow_goto C X192 at_282 (pcT := 286) (by decide) (by decide) ?_
    refine ow_lload C X192 at_286 rfl (pc' := 288) rfl ?_
    refine ow_lload C X192 at_288 rfl (pc' := 290) rfl ?_
    refine ow_lsub C X192 at_290 (pc' := 291) rfl ?_
    refine ow_ldc2 C X192 (hw _ (List.mem_of_getElem? (i := 78) rfl)) at_291 (pc' := 294) rfl ?_
    refine ow_lcmp C X192 at_294 (pc' := 295) rfl ?_
    refine ow_lif_ge C X192 at_295 (pcT := 303) (pc' := 298) (by decide) (by decide) rfl (fun bq => absurd (mt.1 b277) bq) (fun _ => ?_)
    refine ow_lload C X192 at_298 rfl (pc' := 300) rfl ?_
    refine ow_goto C X192 at_300 (pcT := 304) (by decide) (by decide) ?_
    refine ow_ladd C X192 at_304 (pc' := 305) rfl ?_
    refine ow_lload C X192 at_305 rfl (pc' := 307) rfl ?_
    refine ow_lload C X192 at_307 rfl (pc' := 309) rfl ?_
    refine ow_lsub C X192 at_309 (pc' := 310) rfl ?_
    refine ow_ldc2 C X192 (hw _ (List.mem_of_getElem? (i := 78) rfl)) at_310 (pc' := 313) rfl ?_
    refine ow_lcmp C X192 at_313 (pc' := 314) rfl ?_
    refine ow_lif_ge C X192 at_314 (pcT := 322) (pc' := 317) (by decide) (by decide) rfl (fun bq => absurd (mt.2 (mt.1 b277)) bq) (fun _ => ?_)
    refine ow_lload C X192 at_317 rfl (pc' := 319) rfl ?_
    refine ow_goto C X192 at_319 (pcT := 323) (by decide) (by decide) ?_
    refine ow_ladd C X192 at_323 (pc' := 324) rfl ?_
    obtain ⟨-, f1, f2, f3, f4⟩ := own_fin hP AAz1 AAz2 AAz3 (F := fun y => (now - y) < (1000000000 : Int64)) mt.1 mt.2 hd Hd He la.toInt lb.toInt lc.toInt (Or.inl ⟨b277, rfl⟩) (Or.inl ⟨(mt.1 b277), rfl⟩) (Or.inl ⟨(mt.2 (mt.1 b277)), rfl⟩)
    have hf := own_sum3 (w0 := la) (w1 := lb) (w2 := lc) (by omega) (by omega) (by omega) (by omega)
    obtain ⟨fresh, hfr⟩ : ∃ y, ((la + lb) + lc) = y := ⟨_, rfl⟩
    rw [hfr] at hf
    rw [hfr]
    have hfp : ((fresh + pl) - (1 : Int64)).toInt = fresh.toInt + pl.toInt - 1 := by rw [own_subI (by rw [own_addI (by omega) (by omega) (by omega)]; omega) (by rw [c1]; omega), own_addI (by omega) (by omega) (by omega), c1]
    refine ow_lstore C X192 at_324 (Ls' := #[.val (.long q0), .second, .val (.long q1), .second, .val (.long q2), .second, .val (.long q3), .second, .val (.long q4), .second, .val (.long q5), .second, .val (.long x), .second, .val (.long la), .second, .val (.long lb), .second, .val (.long lc), .second, .val (.long t0), .second, .val (.long th), .second, .val (.long t1), .second, .val (.long t2), .second, .val (.long now), .second, .val (.long pl), .second, .val (.ref a182), .val (.int (1 : Int32)), .val (.long tot), .second, .val (.long held), .second, .val (.long held), .second, .val (.long fresh), .second]) rfl (pc' := 326) rfl ?_
    refine ow_iload C X192 at_326 rfl (pc' := 328) rfl ?_
    refine ow_if_eq C X192 at_328 (pcT := 343) (pc' := 331) (by decide) (by decide) rfl (fun bq => absurd bq (by decide)) (fun _ => ?_)
    refine ow_lload C X192 at_331 rfl (pc' := 333) rfl ?_
    refine ow_lload C X192 at_333 rfl (pc' := 335) rfl ?_
    refine ow_lcmp C X192 at_335 (pc' := 336) rfl ?_
    refine ow_lif_ne C X192 at_336 (pcT := 343) (pc' := 339) (by decide) (by decide) rfl (fun bq => absurd rfl bq) (fun _ => ?_)
    refine ow_iconst (1 : Int32) C X192 at_339 (by decide) (pc' := 340) rfl ?_
    refine ow_goto C X192 at_340 (pcT := 344) (by decide) (by decide) ?_
    refine ow_istore C X192 at_344 (Ls' := #[.val (.long q0), .second, .val (.long q1), .second, .val (.long q2), .second, .val (.long q3), .second, .val (.long q4), .second, .val (.long q5), .second, .val (.long x), .second, .val (.long la), .second, .val (.long lb), .second, .val (.long lc), .second, .val (.long t0), .second, .val (.long th), .second, .val (.long t1), .second, .val (.long t2), .second, .val (.long now), .second, .val (.long pl), .second, .val (.ref a182), .val (.int (1 : Int32)), .val (.long tot), .second, .val (.long held), .second, .val (.long held), .second, .val (.long fresh), .second]) rfl (pc' := 346) rfl ?_
    refine ow_iload C X192 at_346 rfl (pc' := 348) rfl ?_
    refine ow_if_eq C X192 at_348 (pcT := 363) (pc' := 351) (by decide) (by decide) rfl (fun bq => absurd bq (by decide)) (fun _ => ?_)
    refine ow_lload C X192 at_351 rfl (pc' := 353) rfl ?_
    refine ow_lload C X192 at_353 rfl (pc' := 355) rfl ?_
    refine ow_lcmp C X192 at_355 (pc' := 356) rfl ?_
    refine ow_lif_gt C X192 at_356 (pcT := 363) (pc' := 359) (by decide) (by decide) rfl (fun bq => absurd bq (fun w => by have := own_ltI.mp w; omega)) (fun _ => ?_)
    refine ow_iconst (1 : Int32) C X192 at_359 (by decide) (pc' := 360) rfl ?_
    refine ow_goto C X192 at_360 (pcT := 364) (by decide) (by decide) ?_
    refine ow_istore C X192 at_364 (Ls' := #[.val (.long q0), .second, .val (.long q1), .second, .val (.long q2), .second, .val (.long q3), .second, .val (.long q4), .second, .val (.long q5), .second, .val (.long x), .second, .val (.long la), .second, .val (.long lb), .second, .val (.long lc), .second, .val (.long t0), .second, .val (.long th), .second, .val (.long t1), .second, .val (.long t2), .second, .val (.long now), .second, .val (.long pl), .second, .val (.ref a182), .val (.int (1 : Int32)), .val (.long tot), .second, .val (.long held), .second, .val (.long held), .second, .val (.long fresh), .second]) rfl (pc' := 366) rfl ?_
    refine ow_iload C X192 at_366 rfl (pc' := 368) rfl ?_
    refine ow_if_eq C X192 at_368 (pcT := 383) (pc' := 371) (by decide) (by decide) rfl (fun bq => absurd bq (by decide)) (fun _ => ?_)
    refine ow_lload C X192 at_371 rfl (pc' := 373) rfl ?_
    refine ow_lload C X192 at_373 rfl (pc' := 375) rfl ?_
    refine ow_lcmp C X192 at_375 (pc' := 376) rfl ?_
    refine ow_lif_gt C X192 at_376 (pcT := 383) (pc' := 379) (by decide) (by decide) rfl (fun bq => absurd bq (fun w => by have := own_ltI.mp w; omega)) (fun _ => ?_)
    refine ow_iconst (1 : Int32) C X192 at_379 (by decide) (pc' := 380) rfl ?_
    refine ow_goto C X192 at_380 (pcT := 384) (by decide) (by decide) ?_
    refine ow_istore C X192 at_384 (Ls' := #[.val (.long q0), .second, .val (.long q1), .second, .val (.long q2), .second, .val (.long q3), .second, .val (.long q4), .second, .val (.long q5), .second, .val (.long x), .second, .val (.long la), .second, .val (.long lb), .second, .val (.long lc), .second, .val (.long t0), .second, .val (.long th), .second, .val (.long t1), .second, .val (.long t2), .second, .val (.long now), .second, .val (.long pl), .second, .val (.ref a182), .val (.int (1 : Int32)), .val (.long tot), .second, .val (.long held), .second, .val (.long held), .second, .val (.long fresh), .second]) rfl (pc' := 386) rfl ?_
    refine ow_iload C X192 at_386 rfl (pc' := 388) rfl ?_
    refine ow_if_eq C X192 at_388 (pcT := 408) (pc' := 391) (by decide) (by decide) rfl (fun bq => absurd bq (by decide)) (fun _ => ?_)
    refine ow_lload C X192 at_391 rfl (pc' := 393) rfl ?_
    refine ow_lload C X192 at_393 rfl (pc' := 395) rfl ?_
    refine ow_lload C X192 at_395 rfl (pc' := 397) rfl ?_
    refine ow_ladd C X192 at_397 (pc' := 398) rfl ?_
    refine ow_lconst (1 : Int64) C X192 at_398 (by decide) (pc' := 399) rfl ?_
    refine ow_lsub C X192 at_399 (pc' := 400) rfl ?_
    refine ow_lcmp C X192 at_400 (pc' := 401) rfl ?_
    refine ow_lif_gt C X192 at_401 (pcT := 408) (pc' := 404) (by decide) (by decide) rfl (fun bq => absurd bq (fun w => by have := own_ltI.mp w; omega)) (fun _ => ?_)
    refine ow_iconst (1 : Int32) C X192 at_404 (by decide) (pc' := 405) rfl ?_
    refine ow_goto C X192 at_405 (pcT := 409) (by decide) (by decide) ?_
    refine ow_istore C X192 at_409 (Ls' := #[.val (.long q0), .second, .val (.long q1), .second, .val (.long q2), .second, .val (.long q3), .second, .val (.long q4), .second, .val (.long q5), .second, .val (.long x), .second, .val (.long la), .second, .val (.long lb), .second, .val (.long lc), .second, .val (.long t0), .second, .val (.long th), .second, .val (.long t1), .second, .val (.long t2), .second, .val (.long now), .second, .val (.long pl), .second, .val (.ref a182), .val (.int (1 : Int32)), .val (.long tot), .second, .val (.long held), .second, .val (.long held), .second, .val (.long fresh), .second]) rfl (pc' := 411) rfl ?_
    refine ow_iload C X192 at_411 rfl (pc' := 413) rfl ?_
    refine ow_if_eq C X192 at_413 (pcT := 434) (pc' := 416) (by decide) (by decide) rfl (fun bq => absurd bq (by decide)) (fun _ => ?_)
    refine ow_lload C X192 at_416 rfl (pc' := 418) rfl ?_
    refine ow_lconst (0 : Int64) C X192 at_418 (by decide) (pc' := 419) rfl ?_
    refine ow_lcmp C X192 at_419 (pc' := 420) rfl ?_
    refine ow_lif_ne C X192 at_420 (pcT := 430) (pc' := 423) (by decide) (by decide) rfl (fun b420 => ?_) (fun b420 => ?_)
    · refine ow_iconst (1 : Int32) C X192 at_430 (by decide) (pc' := 431) rfl ?_
      refine ow_goto C X192 at_431 (pcT := 435) (by decide) (by decide) ?_
      refine ow_istore C X192 at_435 (Ls' := #[.val (.long q0), .second, .val (.long q1), .second, .val (.long q2), .second, .val (.long q3), .second, .val (.long q4), .second, .val (.long q5), .second, .val (.long x), .second, .val (.long la), .second, .val (.long lb), .second, .val (.long lc), .second, .val (.long t0), .second, .val (.long th), .second, .val (.long t1), .second, .val (.long t2), .second, .val (.long now), .second, .val (.long pl), .second, .val (.ref a182), .val (.int (1 : Int32)), .val (.long tot), .second, .val (.long held), .second, .val (.long held), .second, .val (.long fresh), .second]) rfl (pc' := 437) rfl ?_
      refine ow_iload C X192 at_437 rfl (pc' := 439) rfl ?_
      exact ow_retZ C X192 at_439 (by first | exact (Nat.le_of_ble_eq_true rfl) | exact cz30 | exact cz20 | exact cz10 | exact cz21 | exact cz11) (by first | exact (Nat.le_of_ble_eq_true rfl) | exact sz30 | exact sz20 | exact sz10 | exact sz21 | exact sz11) (Or.inr rfl) ⟨rfl, Nn191⟩
    · refine ow_lload C X192 at_423 rfl (pc' := 425) rfl ?_
      refine ow_lconst (0 : Int64) C X192 at_425 (by decide) (pc' := 426) rfl ?_
      refine ow_lcmp C X192 at_426 (pc' := 427) rfl ?_
      refine ow_lif_ne C X192 at_427 (pcT := 434) (pc' := 430) (by decide) (by decide) rfl (fun bq => absurd (Int64.toInt_inj.mp (by rw [hh, z0]; exact f4 (by rw [← hf, b420, z0]))) bq) (fun _ => ?_)
      refine ow_iconst (1 : Int32) C X192 at_430 (by decide) (pc' := 431) rfl ?_
      refine ow_goto C X192 at_431 (pcT := 435) (by decide) (by decide) ?_
      refine ow_istore C X192 at_435 (Ls' := #[.val (.long q0), .second, .val (.long q1), .second, .val (.long q2), .second, .val (.long q3), .second, .val (.long q4), .second, .val (.long q5), .second, .val (.long x), .second, .val (.long la), .second, .val (.long lb), .second, .val (.long lc), .second, .val (.long t0), .second, .val (.long th), .second, .val (.long t1), .second, .val (.long t2), .second, .val (.long now), .second, .val (.long pl), .second, .val (.ref a182), .val (.int (1 : Int32)), .val (.long tot), .second, .val (.long held), .second, .val (.long held), .second, .val (.long fresh), .second]) rfl (pc' := 437) rfl ?_
      refine ow_iload C X192 at_437 rfl (pc' := 439) rfl ?_
      exact ow_retZ C X192 at_439 (by first | exact (Nat.le_of_ble_eq_true rfl) | exact cz30 | exact cz20 | exact cz10 | exact cz21 | exact cz11) (by first | exact (Nat.le_of_ble_eq_true rfl) | exact sz30 | exact sz20 | exact sz10 | exact sz21 | exact sz11) (Or.inr rfl) ⟨rfl, Nn191⟩
theorem rm_law (l : Launch) (Z : State) (a0 : Array Value) (hw : ∀ d ∈ tables_1, d.before a0 Z = true) (q0 q1 q2 q3 q4 q5 : Int64) (h0 : Heap) (n0 : Nat) (Z0 : n0 ≤ h0.size) :
    OwCon l (⟨"com/example/calm_valve/calmvalve/AdmissionWindowAdmittedPinLaw", "law", "(JJJJJJ)Z"⟩ : MethodName) code maxLocals ret room_1 Z #[(.long q0), (.long q1), (.long q2), (.long q3), (.long q4), (.long q5)] h0 (fun v h L => v = some (.int 1) ∧ Fr n0 L) :=
  rm_law1 l Z a0 hw q0 q1 q2 q3 q4 q5 _ _ _ _ _ _ _ _ _ _ _ _ _ rfl rfl rfl rfl rfl rfl rfl rfl rfl rfl rfl rfl rfl h0 n0 Z0
set_option maxRecDepth 65536 in
set_option maxHeartbeats 40000000 in
theorem comes_1 {Post : Tables → Env → Array Value → State → Outcome → State → Prop} (hpost : ∀ tb e args s v u, (limb_1_1.after args s (.returned v) u = true ∧ limb_1_2.after args s (.returned v) u = true ∧ True) → FrameEnd s (.returned v) u (Jvm.fieldLocs frame_1_writes args s ++ Jvm.arrayLocs frame_1_arrays args s ++ Jvm.staticLocs frame_1_statics s) 32 1728 → Post tb e args s (.returned v) u) :
    ArmFor flags0 classFile x code maxLocals ret World_1 tables_1 room_1 Calls_1 rest_1 Pre_1 Post := by
  intro l hfl _ _ p e ha hc hk s m args below hf hA hF happ hP
  obtain ⟨hcalls, hrest, hpre⟩ := hP
  obtain ⟨-, -, -, hnamed, -, -, -, hat⟩ := (Spec.applies_iff hf).mp happ
  obtain ⟨hg, hn⟩ := and_e (Cond.before_iff.mp (show (Jvm.Cond.and given_1 narrow_1).before args s = true from hpre))
  obtain ⟨h1, hg0⟩ := and_e hg
  obtain ⟨ha0, hg1⟩ := and_e hg0
  obtain ⟨ha1, hg2⟩ := and_e hg1
  obtain ⟨ha2, hg3⟩ := and_e hg2
  obtain ⟨ha3, hg4⟩ := and_e hg3
  obtain ⟨ha4, hg5⟩ := and_e hg4
  obtain ⟨w0, w1, w2, w3, w4, w5, rfl⟩ : ∃ w0 w1 w2 w3 w4 w5 : Value, args = #[w0, w1, w2, w3, w4, w5] := by
    have hs : args.size = 6 := by simpa [Cond.value, given_1] using h1
    obtain ⟨L⟩ := args
    match L, hs with
    | [w0, w1, w2, w3, w4, w5], _ => exact ⟨w0, w1, w2, w3, w4, w5, rfl⟩
  have hw := fun d (hd : d ∈ tables_1) => atoms_spec (ws := Jvm.Cond.code x code maxLocals ret :: tables_1) hat d (List.mem_cons_of_mem _ hd)
  obtain ⟨q0, ev0⟩ := isL_v ha0
  obtain rfl : w0 = (.long q0) := Option.some.inj ev0
  obtain ⟨q1, ev1⟩ := isL_v ha1
  obtain rfl : w1 = (.long q1) := Option.some.inj ev1
  obtain ⟨q2, ev2⟩ := isL_v ha2
  obtain rfl : w2 = (.long q2) := Option.some.inj ev2
  obtain ⟨q3, ev3⟩ := isL_v ha3
  obtain rfl : w3 = (.long q3) := Option.some.inj ev3
  obtain ⟨q4, ev4⟩ := isL_v ha4
  obtain rfl : w4 = (.long q4) := Option.some.inj ev4
  obtain ⟨q5, ev5⟩ := isL_v hg5
  obtain rfl : w5 = (.long q5) := Option.some.inj ev5
  obtain ⟨n, o, h1, h2, h3, _, L, rfl, ⟨rfl, N⟩, hq⟩ := rm_law l s _ hw q0 q1 q2 q3 q4 q5 s.heap s.heap.size (Nat.le_refl _)  tables_1 p e ha hc hk s m _ below hf ((Spec.applies_iff_loose hf).mp happ).1 ⟨rfl, State.Warmed39.refl s, rfl⟩ trivial
  refine ⟨n, _, h1, h2, h3, hpost _ _ _ _ _ _ ⟨Cond.after_iff.mpr rfl, Cond.after_iff.mpr (eq_i res_at (Term.int_eval (1)) rfl), trivial⟩ ⟨hq.1, hq.2.1, (hq.2.2.sift fun y hy => Or.inr (N y hy)).mono (by decide) (by decide)⟩⟩
theorem main_1_1 : Claimed_1_1 := comes_1 fun _ _ _ _ _ _ h hF => ⟨h.1, hF⟩
theorem main_1_2 : Claimed_1_2 := comes_1 fun _ _ _ _ _ _ h hF => ⟨h.2.1, hF⟩
end Jvm.Pilot.@@N@@
namespace Jvm.Pilot.@@N@@
open Jvm Jvm.ClassFile Sem Op Lib Jvm.Free Jvm.Stand Jvm.Pilot.@@N@@.Jvm.D
/-! MADE BY PROGRAM (witnessworld.py) out of the Statement's table words and the real class files: 12 classes; the members and pool entries that the words name. The judged class is class 1, her method 1. -/
namespace start1
open Jvm.ClassFile
def u (s : String) : CpInfo := .utf8 (stringToUtf16 s)
/-- a pool by its gaps: so many unusable entries, then the entry; so many at the end -/
def gap : Nat → List CpInfo → List CpInfo
  | 0, r => r
  | n + 1, r => .unusable :: gap n r
def poolList (es : List (Nat × CpInfo)) (last : Nat) : List CpInfo := es.foldr (fun e r => gap e.1 (e.2 :: r)) (gap last [])
def pool (es : List (Nat × CpInfo)) (last : Nat) : Array CpInfo := ⟨poolList es last⟩
def fileOf (pool : Array CpInfo) (this : Nat) (attrs : Array Attribute := #[]) (ms : Array MethodInfo := #[]) (fl : Nat := 33) (sup : Nat := 0) (ifs : Array Nat := #[]) (fds : Array FieldInfo := #[]) : ClassFile where
  minorVersion := 0
  majorVersion := 65
  constantPool := pool
  accessFlags := fl
  thisClass := this
  superClass := sup
  interfaces := ifs
  fields := fds
  methods := ms
  attributes := attrs
def plain (name : String) (sup : Option ClassId) : Class where
  name := name
  kind := .ordinary
  loader := none
  accessFlags := 33
  super := sup
  interfaces := #[]
  cf := none
  fields := #[]
  methods := #[]
  instanceTypes := #[]
  staticTypes := #[]
  resolved := #[]
  callSites := []
  init := .initialized
  statics := none
  mirror := none

def pool0 : Array CpInfo := pool [(5, u "<init>"), (0, u "()V"), (1, .class_ 10), (1, u "java/lang/Object")] 113

def k0c0 : Code := { maxStack := 0, maxLocals := 1, code := object_method_1_code, exceptionTable := #[], attributes := #[] }
def k0m0 : Method := { name := "<init>", desc := "()V", sig := { parameters := [], returnType := none }, accessFlags := 1, code := some k0c0 }
/-- java/lang/Object -/
def k0 : Class := { plain "java/lang/Object" none with
  accessFlags := 33
  interfaces := #[]
  cf := some (fileOf pool0 8 #[] #[{ accessFlags := 1, nameIndex := 5, descriptorIndex := 6, attributes := #[] }] 33 0 #[] #[])
  fields := #[]
  methods := #[k0m0]
  instanceTypes := #[]
  staticTypes := #[]
  resolved := Array.replicate 124 none
  statics := none }

def pool1 : Array CpInfo := pool [(2, .class_ 4), (1, u "java/lang/Object"), (0, u "<init>"), (0, u "()V"), (0, .long 4611686018427387903), (3, .long 9223372036854775807), (1, .long 2147483647), (1, .long 1073741823), (1, .long 299), (1, .long 300), (1, .class_ 22), (0, u "com/example/calm_valve/calmvalve/AdmissionWindow"), (0, .methodref 21 24), (0, .nameAndType 5 25), (0, u "(J)V"), (0, .methodref 21 27), (0, .nameAndType 28 29), (0, u "admitted"), (0, u "()J"), (0, .methodref 21 31), (0, .nameAndType 32 33), (0, u "add"), (0, u "(JJ)V"), (0, .methodref 21 35), (0, .nameAndType 36 37), (0, u "admittedAt"), (0, u "(J)J"), (0, .long 1000000000), (1, .class_ 41), (0, u "com/example/calm_valve/calmvalve/AdmissionWindowAdmittedPinLaw"), (2, u "law"), (0, u "(JJJJJJ)Z")] 3

def k1m0 : Method := { name := "<init>", desc := "()V", sig := { parameters := [], returnType := none }, accessFlags := 1, code := none }
def k1c1 : Code := { maxStack := 6, maxLocals := 42, code := code, exceptionTable := #[], attributes := #[] }
def k1m1 : Method := { name := "law", desc := "(JJJJJJ)Z", sig := { parameters := [.long, .long, .long, .long, .long, .long], returnType := some .boolean }, accessFlags := 9, code := some k1c1 }
/-- com/example/calm_valve/calmvalve/AdmissionWindowAdmittedPinLaw -/
def k1 : Class := { plain "com/example/calm_valve/calmvalve/AdmissionWindowAdmittedPinLaw" (some 0) with
  accessFlags := 49
  interfaces := #[]
  cf := some (fileOf pool1 40 #[] #[{ accessFlags := 1, nameIndex := 5, descriptorIndex := 6, attributes := #[] }, { accessFlags := 9, nameIndex := 44, descriptorIndex := 45, attributes := #[] }] 49 2 #[] #[])
  fields := #[]
  methods := #[k1m0, k1m1]
  instanceTypes := #[]
  staticTypes := #[]
  resolved := Array.replicate 49 none
  statics := none }

def pool2 : Array CpInfo := pool [(1, .class_ 2), (0, u "com/example/calm_valve/calmvalve/AdmissionWindow"), (0, .methodref 4 5), (0, .class_ 6), (0, .nameAndType 7 8), (0, u "java/lang/Object"), (0, u "<init>"), (0, u "()V"), (0, .fieldref 1 10), (0, .nameAndType 11 12), (0, u "m_aSlotTimes"), (0, u "[J"), (0, .fieldref 1 14), (0, .nameAndType 15 16), (0, u "m_nPartial"), (0, u "I"), (0, .long 300), (1, .methodref 1 20), (0, .nameAndType 21 22), (0, u "ceilDiv"), (0, u "(JJ)J"), (0, .methodref 24 25), (0, .class_ 26), (0, .nameAndType 27 22), (0, u "java/lang/Math"), (0, u "max"), (0, .fieldref 1 29), (0, .nameAndType 30 31), (0, u "m_nPerSlot"), (0, u "J"), (0, .fieldref 1 33), (0, .nameAndType 34 16), (0, u "m_nMaxSlots"), (0, .fieldref 1 36), (0, .nameAndType 37 16), (0, u "m_nUsed"), (0, .methodref 1 39), (0, .nameAndType 40 41), (0, u "oldestTime"), (0, u "()J"), (0, .long 1000000000), (1, .fieldref 1 45), (0, .nameAndType 46 16), (0, u "m_nOldest"), (0, .methodref 1 48), (0, .nameAndType 49 41), (0, u "admitted"), (0, .fieldref 1 51), (0, .nameAndType 52 31), (0, u "m_nPartialFill"), (0, .fieldref 1 54), (0, .nameAndType 55 31), (0, u "m_nNewestFill"), (2, u "m_bLeftOutAny"), (0, u "Z"), (2, u "m_nLatestLeftOut"), (2, u "add"), (0, u "(JJ)V"), (0, .fieldref 1 68), (0, .nameAndType 69 31), (0, u "m_nNewestTime"), (0, .long 3333333), (1, .methodref 1 73), (0, .nameAndType 74 75), (0, u "newest"), (0, u "()I"), (0, .methodref 24 77), (0, .nameAndType 78 22), (0, u "min"), (0, .methodref 1 80), (0, .nameAndType 81 8), (0, u "grow"), (2, u "admittedAt"), (0, u "(J)J"), (7, .methodref 24 94), (0, .nameAndType 27 95), (0, u "(II)I"), (0, .methodref 24 97), (0, .nameAndType 78 95), (0, .methodref 24 99), (0, .nameAndType 100 95), (0, u "floorMod"), (0, u "WINDOW_NANOS"), (1, u "MAX_SLOTS"), (1, u "SLOT_SHARE_NANOS"), (0, u "(J)V")] 10

def k2c0 : Code := { maxStack := 7, maxLocals := 3, code := prog_1_method_1_code, exceptionTable := #[], attributes := #[] }
def k2m0 : Method := { name := "<init>", desc := "(J)V", sig := { parameters := [.long], returnType := none }, accessFlags := 0, code := some k2c0 }
def k2c1 : Code := { maxStack := 4, maxLocals := 3, code := prog_1_method_2_code, exceptionTable := #[], attributes := #[] }
def k2m1 : Method := { name := "admittedAt", desc := "(J)J", sig := { parameters := [.long], returnType := some .long }, accessFlags := 0, code := some k2c1 }
def k2c2 : Code := { maxStack := 4, maxLocals := 3, code := prog_1_method_3_code, exceptionTable := #[], attributes := #[] }
def k2m2 : Method := { name := "admitted", desc := "()J", sig := { parameters := [], returnType := some .long }, accessFlags := 0, code := some k2c2 }
def k2c3 : Code := { maxStack := 6, maxLocals := 10, code := prog_1_method_6_code, exceptionTable := #[], attributes := #[] }
def k2m3 : Method := { name := "add", desc := "(JJ)V", sig := { parameters := [.long, .long], returnType := none }, accessFlags := 0, code := some k2c3 }
def k2c4 : Code := { maxStack := 2, maxLocals := 1, code := prog_1_method_9_code, exceptionTable := #[], attributes := #[] }
def k2m4 : Method := { name := "oldestTime", desc := "()J", sig := { parameters := [], returnType := some .long }, accessFlags := 2, code := some k2c4 }
def k2c5 : Code := { maxStack := 2, maxLocals := 1, code := prog_1_method_11_code, exceptionTable := #[], attributes := #[] }
def k2m5 : Method := { name := "newest", desc := "()I", sig := { parameters := [], returnType := some .int }, accessFlags := 2, code := some k2c5 }
def k2c6 : Code := { maxStack := 5, maxLocals := 3, code := prog_1_method_12_code, exceptionTable := #[], attributes := #[] }
def k2m6 : Method := { name := "grow", desc := "()V", sig := { parameters := [], returnType := none }, accessFlags := 2, code := some k2c6 }
def k2c7 : Code := { maxStack := 6, maxLocals := 4, code := prog_1_method_13_code, exceptionTable := #[], attributes := #[] }
def k2m7 : Method := { name := "ceilDiv", desc := "(JJ)J", sig := { parameters := [.long, .long], returnType := some .long }, accessFlags := 10, code := some k2c7 }
/-- com/example/calm_valve/calmvalve/AdmissionWindow -/
def k2 : Class := { plain "com/example/calm_valve/calmvalve/AdmissionWindow" (some 0) with
  accessFlags := 32
  interfaces := #[]
  cf := some (fileOf pool2 1 #[] #[{ accessFlags := 0, nameIndex := 7, descriptorIndex := 106, attributes := #[] }, { accessFlags := 0, nameIndex := 84, descriptorIndex := 85, attributes := #[] }, { accessFlags := 0, nameIndex := 49, descriptorIndex := 41, attributes := #[] }, { accessFlags := 0, nameIndex := 65, descriptorIndex := 66, attributes := #[] }, { accessFlags := 2, nameIndex := 40, descriptorIndex := 41, attributes := #[] }, { accessFlags := 2, nameIndex := 74, descriptorIndex := 75, attributes := #[] }, { accessFlags := 2, nameIndex := 81, descriptorIndex := 8, attributes := #[] }, { accessFlags := 10, nameIndex := 21, descriptorIndex := 22, attributes := #[] }] 32 4 #[] #[{ accessFlags := 24, nameIndex := 101, descriptorIndex := 31, attributes := #[] }, { accessFlags := 24, nameIndex := 103, descriptorIndex := 16, attributes := #[] }, { accessFlags := 26, nameIndex := 105, descriptorIndex := 31, attributes := #[] }, { accessFlags := 18, nameIndex := 30, descriptorIndex := 31, attributes := #[] }, { accessFlags := 18, nameIndex := 34, descriptorIndex := 16, attributes := #[] }, { accessFlags := 2, nameIndex := 11, descriptorIndex := 12, attributes := #[] }, { accessFlags := 2, nameIndex := 46, descriptorIndex := 16, attributes := #[] }, { accessFlags := 2, nameIndex := 37, descriptorIndex := 16, attributes := #[] }, { accessFlags := 2, nameIndex := 69, descriptorIndex := 31, attributes := #[] }, { accessFlags := 2, nameIndex := 55, descriptorIndex := 31, attributes := #[] }, { accessFlags := 2, nameIndex := 15, descriptorIndex := 16, attributes := #[] }, { accessFlags := 2, nameIndex := 52, descriptorIndex := 31, attributes := #[] }, { accessFlags := 2, nameIndex := 58, descriptorIndex := 59, attributes := #[] }, { accessFlags := 2, nameIndex := 62, descriptorIndex := 31, attributes := #[] }])
  fields := #[{ name := "WINDOW_NANOS", type := .long, accessFlags := 24, slot := 0, constantValue := 0 }, { name := "MAX_SLOTS", type := .int, accessFlags := 24, slot := 1, constantValue := 0 }, { name := "SLOT_SHARE_NANOS", type := .long, accessFlags := 26, slot := 2, constantValue := 0 }, { name := "m_nPerSlot", type := .long, accessFlags := 18, slot := 0, constantValue := 0 }, { name := "m_nMaxSlots", type := .int, accessFlags := 18, slot := 1, constantValue := 0 }, { name := "m_aSlotTimes", type := (.array .long), accessFlags := 2, slot := 2, constantValue := 0 }, { name := "m_nOldest", type := .int, accessFlags := 2, slot := 3, constantValue := 0 }, { name := "m_nUsed", type := .int, accessFlags := 2, slot := 4, constantValue := 0 }, { name := "m_nNewestTime", type := .long, accessFlags := 2, slot := 5, constantValue := 0 }, { name := "m_nNewestFill", type := .long, accessFlags := 2, slot := 6, constantValue := 0 }, { name := "m_nPartial", type := .int, accessFlags := 2, slot := 7, constantValue := 0 }, { name := "m_nPartialFill", type := .long, accessFlags := 2, slot := 8, constantValue := 0 }, { name := "m_bLeftOutAny", type := .boolean, accessFlags := 2, slot := 9, constantValue := 0 }, { name := "m_nLatestLeftOut", type := .long, accessFlags := 2, slot := 10, constantValue := 0 }]
  methods := #[k2m0, k2m1, k2m2, k2m3, k2m4, k2m5, k2m6, k2m7]
  instanceTypes := #[.long, .int, (.array .long), .int, .int, .long, .long, .int, .long, .boolean, .long]
  staticTypes := #[.long, .int, .long]
  resolved := Array.replicate 117 none
  statics := none }

def pool3 : Array CpInfo := pool [(1, .class_ 2), (0, u "java/lang/Math"), (1, .class_ 6), (1, u "java/lang/Object"), (0, u "<init>"), (0, u "()V"), (89, .class_ 100), (1, u "java/lang/Math$RandomNumberGeneratorHolder"), (20, u "(JJ)J"), (26, u "floorMod"), (23, u "negativeZeroFloatBits"), (0, u "J"), (2, u "negativeZeroDoubleBits"), (21, u "max"), (2, u "min"), (43, u "$assertionsDisabled"), (0, u "Z"), (88, u "(II)I"), (2, u "twoToTheDoubleScaleDown"), (0, u "D"), (4, u "twoToTheDoubleScaleUp"), (9, u "E"), (3, u "PI"), (2, u "TAU"), (2, u "DEGREES_TO_RADIANS"), (0, u "RADIANS_TO_DEGREES")] 94

def k3m0 : Method := { name := "<init>", desc := "()V", sig := { parameters := [], returnType := none }, accessFlags := 2, code := none }
def k3c1 : Code := { maxStack := 2, maxLocals := 3, code := jdk_29_method_50_code, exceptionTable := #[], attributes := #[] }
def k3m1 : Method := { name := "floorMod", desc := "(II)I", sig := { parameters := [.int, .int], returnType := some .int }, accessFlags := 9, code := some k3c1 }
def k3c2 : Code := { maxStack := 2, maxLocals := 2, code := jdk_29_method_65_code, exceptionTable := #[], attributes := #[] }
def k3m2 : Method := { name := "max", desc := "(II)I", sig := { parameters := [.int, .int], returnType := some .int }, accessFlags := 9, code := some k3c2 }
def k3c3 : Code := { maxStack := 4, maxLocals := 4, code := jdk_29_method_66_code, exceptionTable := #[], attributes := #[] }
def k3m3 : Method := { name := "max", desc := "(JJ)J", sig := { parameters := [.long, .long], returnType := some .long }, accessFlags := 9, code := some k3c3 }
def k3c4 : Code := { maxStack := 2, maxLocals := 2, code := jdk_29_method_69_code, exceptionTable := #[], attributes := #[] }
def k3m4 : Method := { name := "min", desc := "(II)I", sig := { parameters := [.int, .int], returnType := some .int }, accessFlags := 9, code := some k3c4 }
def k3c5 : Code := { maxStack := 4, maxLocals := 4, code := jdk_29_method_70_code, exceptionTable := #[], attributes := #[] }
def k3m5 : Method := { name := "min", desc := "(JJ)J", sig := { parameters := [.long, .long], returnType := some .long }, accessFlags := 9, code := some k3c5 }
/-- java/lang/Math -/
def k3 : Class := { plain "java/lang/Math" (some 0) with
  accessFlags := 49
  interfaces := #[]
  cf := some (fileOf pool3 1 #[.nestMembers #[98]] #[{ accessFlags := 2, nameIndex := 7, descriptorIndex := 8, attributes := #[] }, { accessFlags := 9, nameIndex := 148, descriptorIndex := 335, attributes := #[] }, { accessFlags := 9, nameIndex := 198, descriptorIndex := 335, attributes := #[] }, { accessFlags := 9, nameIndex := 198, descriptorIndex := 121, attributes := #[] }, { accessFlags := 9, nameIndex := 201, descriptorIndex := 335, attributes := #[] }, { accessFlags := 9, nameIndex := 201, descriptorIndex := 121, attributes := #[] }] 49 4 #[] #[{ accessFlags := 25, nameIndex := 354, descriptorIndex := 339, attributes := #[] }, { accessFlags := 25, nameIndex := 358, descriptorIndex := 339, attributes := #[] }, { accessFlags := 25, nameIndex := 361, descriptorIndex := 339, attributes := #[] }, { accessFlags := 26, nameIndex := 364, descriptorIndex := 339, attributes := #[] }, { accessFlags := 26, nameIndex := 365, descriptorIndex := 339, attributes := #[] }, { accessFlags := 26, nameIndex := 172, descriptorIndex := 173, attributes := #[] }, { accessFlags := 26, nameIndex := 176, descriptorIndex := 173, attributes := #[] }, { accessFlags := 8, nameIndex := 344, descriptorIndex := 339, attributes := #[] }, { accessFlags := 8, nameIndex := 338, descriptorIndex := 339, attributes := #[] }, { accessFlags := 4120, nameIndex := 245, descriptorIndex := 246, attributes := #[] }])
  fields := #[{ name := "E", type := .double, accessFlags := 25, slot := 0, constantValue := 0 }, { name := "PI", type := .double, accessFlags := 25, slot := 1, constantValue := 0 }, { name := "TAU", type := .double, accessFlags := 25, slot := 2, constantValue := 0 }, { name := "DEGREES_TO_RADIANS", type := .double, accessFlags := 26, slot := 3, constantValue := 0 }, { name := "RADIANS_TO_DEGREES", type := .double, accessFlags := 26, slot := 4, constantValue := 0 }, { name := "negativeZeroFloatBits", type := .long, accessFlags := 26, slot := 5, constantValue := 0 }, { name := "negativeZeroDoubleBits", type := .long, accessFlags := 26, slot := 6, constantValue := 0 }, { name := "twoToTheDoubleScaleUp", type := .double, accessFlags := 8, slot := 7, constantValue := 0 }, { name := "twoToTheDoubleScaleDown", type := .double, accessFlags := 8, slot := 8, constantValue := 0 }, { name := "$assertionsDisabled", type := .boolean, accessFlags := 4120, slot := 9, constantValue := 0 }]
  methods := #[k3m0, k3m1, k3m2, k3m3, k3m4, k3m5]
  instanceTypes := #[]
  staticTypes := #[.double, .double, .double, .double, .double, .long, .long, .double, .double, .boolean]
  resolved := Array.replicate 460 none
  statics := none }

def pool4 : Array CpInfo := pool [(1, u "java/lang/Cloneable"), (0, .class_ 1), (0, u "java/lang/Object"), (0, .class_ 3)] 3

/-- java/lang/Cloneable -/
def k4 : Class := { plain "java/lang/Cloneable" (some 0) with
  accessFlags := 1537
  interfaces := #[]
  cf := some (fileOf pool4 2 #[] #[] 1537 4 #[] #[])
  fields := #[]
  methods := #[]
  instanceTypes := #[]
  staticTypes := #[]
  resolved := Array.replicate 8 none
  statics := none }

def pool5 : Array CpInfo := pool [(1, u "java/io/Serializable"), (0, .class_ 1), (0, u "java/lang/Object"), (0, .class_ 3)] 3

/-- java/io/Serializable -/
def k5 : Class := { plain "java/io/Serializable" (some 0) with
  accessFlags := 1537
  interfaces := #[]
  cf := some (fileOf pool5 2 #[] #[] 1537 4 #[] #[])
  fields := #[]
  methods := #[]
  instanceTypes := #[]
  staticTypes := #[]
  resolved := Array.replicate 8 none
  statics := none }

/-- the primitive byte -/
def k6 : Class := { plain "byte" none with kind := .primitive 'B', accessFlags := 0x411 }
/-- [B -/
def k7 : Class := { plain "[B" (some 0) with kind := .array 6 .byte, interfaces := #[4, 5], accessFlags := 1041 }

/-- the primitive int -/
def k8 : Class := { plain "int" none with kind := .primitive 'I', accessFlags := 0x411 }
/-- [I -/
def k9 : Class := { plain "[I" (some 0) with kind := .array 8 .int, interfaces := #[4, 5], accessFlags := 1041 }

/-- the primitive long -/
def k10 : Class := { plain "long" none with kind := .primitive 'J', accessFlags := 0x411 }
/-- [J -/
def k11 : Class := { plain "[J" (some 0) with kind := .array 10 .long, interfaces := #[4, 5], accessFlags := 1041 }

def heap : Heap := #[]
def classes : Array Class := #[k0, k1, k2, k3, k4, k5, k6, k7, k8, k9, k10, k11]
def interned : List (Array UInt16 × Addr) := []
def slotsUsed : Nat := 0
def theMethod : MethodId := ⟨1, 1⟩
def args0 : Array Value := #[.long 5, .long 5, .long 5, .long 5, .long 5, .long 5]
def aboutOver (below : List Frame) : State where
  vm := { classes := classes, interned := interned.toArray }
  heap := heap
  slotsUsed := slotsUsed
  threads := #[{ frames := .invoking theMethod args0 :: below }]
def below0 : List Frame := [.native { method := ⟨0, 0⟩, args := #[] }]
def about1 : State := aboutOver below0
def p0 : Program := .bare "" "" ""
def e0 : Env := launch0.env 0 0 0
theorem w_frames : about1.frames = Frame.invoking theMethod args0 :: below0 := rfl
set_option maxRecDepth 65536 in
theorem w_args : argsFit about1.vm theMethod args0 = true := by decide +kernel
set_option maxRecDepth 65536 in
theorem w_heap : heapFits about1 = true := by decide +kernel
set_option maxRecDepth 65536 in
theorem w_runnable : about1.curStatus? = some .runnable := by decide +kernel
set_option maxRecDepth 65536 in
theorem w_alone : about1.alone = true := by decide +kernel
set_option maxRecDepth 65536 in
theorem w_named : about1.methodNamed? x = some theMethod := by decide +kernel
set_option maxRecDepth 65536 in
theorem w_hears : about1.hears theMethod below0 = true := by decide +kernel
set_option maxRecDepth 65536 in
theorem w_ripe : about1.ripe theMethod args0 below0 = true := by decide +kernel
theorem w_running : about1.status = .running := rfl
set_option maxRecDepth 65536 in
theorem w_room : about1.hasRoom e0.platform room_1 = true :=
  launch0.hasRoom_least _ room_1 (by decide +kernel) (by decide +kernel) (by decide +kernel) (by decide +kernel) (by decide +kernel) (by decide +kernel)
theorem allAtoms_all (ts : List Jvm.Cond) (a : Array Jvm.Value) (st : Jvm.State) : (allAtoms ts).before a st = ts.all (fun c => c.before a st) := by
  induction ts with
  | nil => rfl
  | cons c t ih =>
    show (Jvm.Cond.and c (allAtoms t)).before a st = _
    rw [Jvm.Cond.before_and, ih, List.all_cons]
def words1 : List Jvm.Cond := Jvm.Cond.code x code maxLocals ret :: tables_1
/-- a 'code' word, met by the world's own term for the bytes: nothing is compared byte by byte -/
theorem code_word {y : MethodName} {bytes : ByteArray} {mx : Nat} {rt : Option FieldType} {a : Array Value} {s : State} {m : MethodId} {meth : Method} {c : Code} (h1 : s.methodNamed? y = some m) (h2 : s.vm.method? m = some meth) (h3 : meth.code = some c) (h4 : c.code = bytes)
    (h5 : (c.maxLocals == mx && c.exceptionTable.isEmpty && decide (c.maxStack ≤ mostOperands) && decide (meth.sig.returnType = rt) && !meth.locks && decide (parseMethodDescriptor y.desc = some meth.sig)) = true) : (Jvm.Cond.code y bytes mx rt).before a s = true := by
  simp only [Bool.and_eq_true, beq_iff_eq, Bool.not_eq_true', decide_eq_true_eq] at h5
  obtain ⟨⟨⟨⟨⟨g1, g2⟩, g3⟩, g4⟩, g5⟩, g6⟩ := h5
  simp [Cond.before, Cond.holds, Cond.value, h1, h2, h3, h4, g1, g2, g3, g4, g5, g6]
def isCode : Jvm.Cond → Bool
  | .code _ _ _ _ => true
  | _ => false
theorem all_split {L : List Jvm.Cond} {P : Jvm.Cond → Bool} (h1 : L.all (fun c => isCode c || P c) = true) (h2 : ∀ c ∈ L.filter isCode, P c = true) : L.all P = true := by
  refine List.all_eq_true.mpr fun c hc => ?_
  have h := List.all_eq_true.mp h1 c hc
  rcases Bool.eq_false_or_eq_true (isCode c) with hi | hi
  · exact h2 c (List.mem_filter.mpr ⟨hc, hi⟩)
  · simpa [hi] using h
set_option maxRecDepth 65536 in
theorem w_c0 : (Jvm.Cond.code x code maxLocals ret).before args0 about1 = true := code_word (m := ⟨1, 1⟩) (meth := k1m1) (c := k1c1) (by decide +kernel) rfl rfl rfl (by decide +kernel)
set_option maxRecDepth 65536 in
theorem w_c1 : (Jvm.Cond.code ({ cls := "com/example/calm_valve/calmvalve/AdmissionWindow", name := "<init>", desc := "(J)V" } : Jvm.MethodName) prog_1_method_1_code (3 : Nat) (Option.none : Option Jvm.ClassFile.FieldType)).before args0 about1 = true := code_word (m := ⟨2, 0⟩) (meth := k2m0) (c := k2c0) (by decide +kernel) rfl rfl rfl (by decide +kernel)
set_option maxRecDepth 65536 in
theorem w_c2 : (Jvm.Cond.code ({ cls := "java/lang/Object", name := "<init>", desc := "()V" } : Jvm.MethodName) object_method_1_code (1 : Nat) (Option.none : Option Jvm.ClassFile.FieldType)).before args0 about1 = true := code_word (m := ⟨0, 0⟩) (meth := k0m0) (c := k0c0) (by decide +kernel) rfl rfl rfl (by decide +kernel)
set_option maxRecDepth 65536 in
theorem w_c3 : (Jvm.Cond.code ({ cls := "com/example/calm_valve/calmvalve/AdmissionWindow", name := "ceilDiv", desc := "(JJ)J" } : Jvm.MethodName) prog_1_method_13_code (4 : Nat) (Option.some Jvm.ClassFile.FieldType.long)).before args0 about1 = true := code_word (m := ⟨2, 7⟩) (meth := k2m7) (c := k2c7) (by decide +kernel) rfl rfl rfl (by decide +kernel)
set_option maxRecDepth 65536 in
theorem w_c4 : (Jvm.Cond.code ({ cls := "java/lang/Math", name := "max", desc := "(JJ)J" } : Jvm.MethodName) jdk_29_method_66_code (4 : Nat) (Option.some Jvm.ClassFile.FieldType.long)).before args0 about1 = true := code_word (m := ⟨3, 3⟩) (meth := k3m3) (c := k3c3) (by decide +kernel) rfl rfl rfl (by decide +kernel)
set_option maxRecDepth 65536 in
theorem w_c5 : (Jvm.Cond.code ({ cls := "com/example/calm_valve/calmvalve/AdmissionWindow", name := "admitted", desc := "()J" } : Jvm.MethodName) prog_1_method_3_code (3 : Nat) (Option.some Jvm.ClassFile.FieldType.long)).before args0 about1 = true := code_word (m := ⟨2, 2⟩) (meth := k2m2) (c := k2c2) (by decide +kernel) rfl rfl rfl (by decide +kernel)
set_option maxRecDepth 65536 in
theorem w_c6 : (Jvm.Cond.code ({ cls := "com/example/calm_valve/calmvalve/AdmissionWindow", name := "add", desc := "(JJ)V" } : Jvm.MethodName) prog_1_method_6_code (10 : Nat) (Option.none : Option Jvm.ClassFile.FieldType)).before args0 about1 = true := code_word (m := ⟨2, 3⟩) (meth := k2m3) (c := k2c3) (by decide +kernel) rfl rfl rfl (by decide +kernel)
set_option maxRecDepth 65536 in
theorem w_c7 : (Jvm.Cond.code ({ cls := "com/example/calm_valve/calmvalve/AdmissionWindow", name := "grow", desc := "()V" } : Jvm.MethodName) prog_1_method_12_code (3 : Nat) (Option.none : Option Jvm.ClassFile.FieldType)).before args0 about1 = true := code_word (m := ⟨2, 6⟩) (meth := k2m6) (c := k2c6) (by decide +kernel) rfl rfl rfl (by decide +kernel)
set_option maxRecDepth 65536 in
theorem w_c8 : (Jvm.Cond.code ({ cls := "java/lang/Math", name := "max", desc := "(II)I" } : Jvm.MethodName) jdk_29_method_65_code (2 : Nat) (Option.some Jvm.ClassFile.FieldType.int)).before args0 about1 = true := code_word (m := ⟨3, 2⟩) (meth := k3m2) (c := k3c2) (by decide +kernel) rfl rfl rfl (by decide +kernel)
set_option maxRecDepth 65536 in
theorem w_c9 : (Jvm.Cond.code ({ cls := "java/lang/Math", name := "min", desc := "(II)I" } : Jvm.MethodName) jdk_29_method_69_code (2 : Nat) (Option.some Jvm.ClassFile.FieldType.int)).before args0 about1 = true := code_word (m := ⟨3, 4⟩) (meth := k3m4) (c := k3c4) (by decide +kernel) rfl rfl rfl (by decide +kernel)
set_option maxRecDepth 65536 in
theorem w_c10 : (Jvm.Cond.code ({ cls := "java/lang/Math", name := "min", desc := "(JJ)J" } : Jvm.MethodName) jdk_29_method_70_code (4 : Nat) (Option.some Jvm.ClassFile.FieldType.long)).before args0 about1 = true := code_word (m := ⟨3, 5⟩) (meth := k3m5) (c := k3c5) (by decide +kernel) rfl rfl rfl (by decide +kernel)
set_option maxRecDepth 65536 in
theorem w_c11 : (Jvm.Cond.code ({ cls := "com/example/calm_valve/calmvalve/AdmissionWindow", name := "newest", desc := "()I" } : Jvm.MethodName) prog_1_method_11_code (1 : Nat) (Option.some Jvm.ClassFile.FieldType.int)).before args0 about1 = true := code_word (m := ⟨2, 5⟩) (meth := k2m5) (c := k2c5) (by decide +kernel) rfl rfl rfl (by decide +kernel)
set_option maxRecDepth 65536 in
theorem w_c12 : (Jvm.Cond.code ({ cls := "com/example/calm_valve/calmvalve/AdmissionWindow", name := "admittedAt", desc := "(J)J" } : Jvm.MethodName) prog_1_method_2_code (3 : Nat) (Option.some Jvm.ClassFile.FieldType.long)).before args0 about1 = true := code_word (m := ⟨2, 1⟩) (meth := k2m1) (c := k2c1) (by decide +kernel) rfl rfl rfl (by decide +kernel)
set_option maxRecDepth 65536 in
theorem w_c13 : (Jvm.Cond.code ({ cls := "com/example/calm_valve/calmvalve/AdmissionWindow", name := "oldestTime", desc := "()J" } : Jvm.MethodName) prog_1_method_9_code (1 : Nat) (Option.some Jvm.ClassFile.FieldType.long)).before args0 about1 = true := code_word (m := ⟨2, 4⟩) (meth := k2m4) (c := k2c4) (by decide +kernel) rfl rfl rfl (by decide +kernel)
set_option maxRecDepth 65536 in
theorem w_c14 : (Jvm.Cond.code ({ cls := "java/lang/Math", name := "floorMod", desc := "(II)I" } : Jvm.MethodName) jdk_29_method_50_code (3 : Nat) (Option.some Jvm.ClassFile.FieldType.int)).before args0 about1 = true := code_word (m := ⟨3, 1⟩) (meth := k3m1) (c := k3c1) (by decide +kernel) rfl rfl rfl (by decide +kernel)
def codes1 : List Jvm.Cond := [Jvm.Cond.code x code maxLocals ret, Jvm.Cond.code ({ cls := "com/example/calm_valve/calmvalve/AdmissionWindow", name := "<init>", desc := "(J)V" } : Jvm.MethodName) prog_1_method_1_code (3 : Nat) (Option.none : Option Jvm.ClassFile.FieldType), Jvm.Cond.code ({ cls := "java/lang/Object", name := "<init>", desc := "()V" } : Jvm.MethodName) object_method_1_code (1 : Nat) (Option.none : Option Jvm.ClassFile.FieldType), Jvm.Cond.code ({ cls := "com/example/calm_valve/calmvalve/AdmissionWindow", name := "ceilDiv", desc := "(JJ)J" } : Jvm.MethodName) prog_1_method_13_code (4 : Nat) (Option.some Jvm.ClassFile.FieldType.long), Jvm.Cond.code ({ cls := "java/lang/Math", name := "max", desc := "(JJ)J" } : Jvm.MethodName) jdk_29_method_66_code (4 : Nat) (Option.some Jvm.ClassFile.FieldType.long), Jvm.Cond.code ({ cls := "com/example/calm_valve/calmvalve/AdmissionWindow", name := "admitted", desc := "()J" } : Jvm.MethodName) prog_1_method_3_code (3 : Nat) (Option.some Jvm.ClassFile.FieldType.long), Jvm.Cond.code ({ cls := "com/example/calm_valve/calmvalve/AdmissionWindow", name := "add", desc := "(JJ)V" } : Jvm.MethodName) prog_1_method_6_code (10 : Nat) (Option.none : Option Jvm.ClassFile.FieldType), Jvm.Cond.code ({ cls := "com/example/calm_valve/calmvalve/AdmissionWindow", name := "grow", desc := "()V" } : Jvm.MethodName) prog_1_method_12_code (3 : Nat) (Option.none : Option Jvm.ClassFile.FieldType), Jvm.Cond.code ({ cls := "java/lang/Math", name := "max", desc := "(II)I" } : Jvm.MethodName) jdk_29_method_65_code (2 : Nat) (Option.some Jvm.ClassFile.FieldType.int), Jvm.Cond.code ({ cls := "java/lang/Math", name := "min", desc := "(II)I" } : Jvm.MethodName) jdk_29_method_69_code (2 : Nat) (Option.some Jvm.ClassFile.FieldType.int), Jvm.Cond.code ({ cls := "java/lang/Math", name := "min", desc := "(JJ)J" } : Jvm.MethodName) jdk_29_method_70_code (4 : Nat) (Option.some Jvm.ClassFile.FieldType.long), Jvm.Cond.code ({ cls := "com/example/calm_valve/calmvalve/AdmissionWindow", name := "newest", desc := "()I" } : Jvm.MethodName) prog_1_method_11_code (1 : Nat) (Option.some Jvm.ClassFile.FieldType.int), Jvm.Cond.code ({ cls := "com/example/calm_valve/calmvalve/AdmissionWindow", name := "admittedAt", desc := "(J)J" } : Jvm.MethodName) prog_1_method_2_code (3 : Nat) (Option.some Jvm.ClassFile.FieldType.long), Jvm.Cond.code ({ cls := "com/example/calm_valve/calmvalve/AdmissionWindow", name := "oldestTime", desc := "()J" } : Jvm.MethodName) prog_1_method_9_code (1 : Nat) (Option.some Jvm.ClassFile.FieldType.long), Jvm.Cond.code ({ cls := "java/lang/Math", name := "floorMod", desc := "(II)I" } : Jvm.MethodName) jdk_29_method_50_code (3 : Nat) (Option.some Jvm.ClassFile.FieldType.int)]
set_option maxRecDepth 65536 in
theorem codes_eq : words1.filter isCode = codes1 := rfl
theorem w_codes : ∀ c ∈ words1.filter isCode, c.before args0 about1 = true := by
  rw [codes_eq]
  intro c hc
  simp only [codes1, List.mem_cons, List.not_mem_nil, or_false] at hc
  rcases hc with rfl | rfl | rfl | rfl | rfl | rfl | rfl | rfl | rfl | rfl | rfl | rfl | rfl | rfl | rfl
  · exact w_c0
  · exact w_c1
  · exact w_c2
  · exact w_c3
  · exact w_c4
  · exact w_c5
  · exact w_c6
  · exact w_c7
  · exact w_c8
  · exact w_c9
  · exact w_c10
  · exact w_c11
  · exact w_c12
  · exact w_c13
  · exact w_c14
set_option maxRecDepth 65536 in
theorem w_t1 : (words1.take 24).all (fun c => isCode c || c.before args0 about1) = true := by decide +kernel
set_option maxRecDepth 65536 in
theorem w_t2 : ((words1.drop 24).take 24).all (fun c => isCode c || c.before args0 about1) = true := by decide +kernel
set_option maxRecDepth 65536 in
theorem w_t3 : (((words1.drop 24).drop 24).take 24).all (fun c => isCode c || c.before args0 about1) = true := by decide +kernel
set_option maxRecDepth 65536 in
theorem w_t4 : (((words1.drop 24).drop 24).drop 24).all (fun c => isCode c || c.before args0 about1) = true := by decide +kernel
theorem w_tables : (allAtoms (Jvm.Cond.code x code maxLocals ret :: tables_1)).before args0 about1 = true := by
  rw [allAtoms_all]
  show words1.all (fun c => c.before args0 about1) = true
  refine all_split ?_ w_codes
  rw [← List.take_append_drop 24 words1, List.all_append, w_t1, ← List.take_append_drop 24 (words1.drop 24), List.all_append, w_t2, ← List.take_append_drop 24 ((words1.drop 24).drop 24), List.all_append, w_t3, w_t4]
  rfl
set_option maxRecDepth 65536 in
theorem w_case : (Jvm.Cond.and given_1 narrow_1).before args0 about1 = true := by decide +kernel
theorem w_applies : (headSpec (Jvm.Cond.code x code maxLocals ret :: tables_1) room_1).applies x e0.platform about1 = true :=
  (Spec.applies_iff w_frames).mpr ⟨w_running, w_runnable, w_alone, w_named, w_hears, w_ripe, w_room, w_tables⟩
theorem atStart : AtStart classFile x code maxLocals ret World_1 tables_1 room_1 Calls_1 rest_1 Pre_1 launch0 p0 e0 about1 theMethod args0 below0 :=
  ⟨lists_1, trivial, launch0.admits_env _ _ _, launch0.least_env, fairChoices_fair.cas, fairChoices_fair.clock, w_frames, w_args, w_heap, w_applies, trivial, trivial, w_case⟩
end start1
theorem witness_1 : WitnessClaimed_1 := ⟨start1.p0, start1.e0, start1.about1, start1.theMethod, start1.args0, start1.below0, start1.atStart⟩
end Jvm.Pilot.@@N@@
